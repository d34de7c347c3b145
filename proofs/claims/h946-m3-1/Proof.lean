import JvmDerived
import JvmDerived.Pilot.@@N@@Statement
import JvmDerived.Pilot.@@N@@Code
set_option linter.unusedVariables false
set_option linter.unusedSimpArgs false
/- laws to paste: Road.backV, Road.chN, Road.codOf, StrChars.pair_says, StrChars.shr0 (cut by pick.py; bodies as the Statement names them) -/
namespace Jvm.Pilot.@@N@@
namespace StrChars
open Jvm Sem ClassFile Op Lib Jvm.Stand Jvm.Free.XT Jvm.Free.ALB Jvm.Free.JM Jvm.Free
open Jvm.Lib.Cold (StaticIs)
/-- a char array whose places are chars -/
def Ch (a : Addr) (A : Cell) (U : State) : Prop := Arr .char a A U ∧ Typed .char A
theorem Ch.mv {a : Addr} {A : Cell} {U U' : State} (h : Ch a A U) (hal : U.vm.Alike U'.vm) (hh : U'.heap = U.heap) : Ch a A U' := ⟨h.1.mv hal hh, h.2⟩
theorem Ch.keep {a : Addr} {A : Cell} {U U' : State} (h : Ch a A U) (hal : U.vm.Alike U'.vm) (hk : U'.heap[a]? = some A) : Ch a A U' := ⟨h.1.keep hal hk, h.2⟩
/-- what place i of a char[]'s cell holds -/
def cv (A : Cell) (i : Nat) : Int32 := match A.slots[i]? with | some (.int x) => x | _ => 0
theorem Ch.get {a : Addr} {A : Cell} {U : State} (h : Ch a A U) {i : Nat} (hi : i < A.slots.size) : A.slots[i]? = some (.int (cv A i)) := by
  have e := Array.getElem?_eq_getElem hi
  have f := h.2 i _ e
  unfold cv; rw [e]
  generalize A.slots[i] = v at f
  cases v <;> simp [fits] at f ⊢
/-- the byte that i2b leaves of a char -/
def lo8 (x : Int32) : Int32 := x.toInt8.toInt32
theorem fits_lo8 (y : Int32) : fits .byte (.int (lo8 y)) = true := by
  have h1 := y.toInt8.le_toInt
  have h2 := y.toInt8.toInt_lt
  simp only [lo8, fits, Bool.and_eq_true, decide_eq_true_eq, Int32.le_iff_toInt_le, Int8.toInt_toInt32, show (-128 : Int32).toInt = -128 from by decide, show (127 : Int32).toInt = 127 from by decide]
  omega
/-- A' is A but that each place j of lo .. hi - 1 holds f j -/
def Laid (A A' : Cell) (lo hi : Nat) (f : Nat → Value) : Prop := A'.cls = A.cls ∧ A'.vm = A.vm ∧ A'.slots.size = A.slots.size ∧ ∀ i, A'.slots[i]? = if lo ≤ i ∧ i < hi then some (f i) else A.slots[i]?
theorem Laid.zero (A : Cell) (lo : Nat) (f : Nat → Value) : Laid A A lo (lo + 0) f := ⟨rfl, rfl, rfl, fun i => by rw [if_neg (by omega)]⟩
theorem Laid.step {A Ak : Cell} {lo k : Nat} {f : Nat → Value} {v : Value} (h : Laid A Ak lo k f) (hlo : lo ≤ k) (hk : k < Ak.slots.size) (hv : v = f k) : Laid A (Ak.setSlot k v) lo (k + 1) f := by
  refine ⟨h.1, h.2.1, by simpa [Cell.setSlot] using h.2.2.1, fun i => ?_⟩
  by_cases e : k = i
  · subst e; rw [Cell.slots_setSlot_self v hk, if_pos (by omega), hv]
  · rw [Cell.slots_setSlot_ne v e, h.2.2.2 i]
    by_cases q : lo ≤ i ∧ i < k
    · rw [if_pos q, if_pos (by omega)]
    · rw [if_neg q, if_neg (by omega)]
def U16 : String := "java/lang/StringUTF16"
namespace Cmp5
def yN : MethodName := ⟨"java/lang/StringUTF16", "compress", "([CI[BII)I"⟩
abbrev yB : ByteArray := jdk_52_method_21_code
theorem d0 : decode yB 0 = .ok (.iconst 0, 1) := by decide +kernel
theorem d1 : decode yB 1 = .ok (.istore 5, 2) := by decide +kernel
theorem d3 : decode yB 3 = .ok (.iload 5, 2) := by decide +kernel
theorem d5 : decode yB 5 = .ok (.iload 4, 2) := by decide +kernel
theorem d7 : decode yB 7 = .ok (.if_icmp (.ge) 37, 3) := by decide +kernel
theorem d10 : decode yB 10 = .ok (.aload_n 0, 1) := by decide +kernel
theorem d11 : decode yB 11 = .ok (.iload_n 1, 1) := by decide +kernel
theorem d12 : decode yB 12 = .ok (.caload, 1) := by decide +kernel
theorem d13 : decode yB 13 = .ok (.istore 6, 2) := by decide +kernel
theorem d15 : decode yB 15 = .ok (.iload 6, 2) := by decide +kernel
theorem d17 : decode yB 17 = .ok (.sipush 255, 3) := by decide +kernel
theorem d20 : decode yB 20 = .ok (.if_icmp (.le) 6, 3) := by decide +kernel
theorem d26 : decode yB 26 = .ok (.aload_n 2, 1) := by decide +kernel
theorem d27 : decode yB 27 = .ok (.iload_n 3, 1) := by decide +kernel
theorem d28 : decode yB 28 = .ok (.iload 6, 2) := by decide +kernel
theorem d30 : decode yB 30 = .ok (.i2b, 1) := by decide +kernel
theorem d31 : decode yB 31 = .ok (.bastore, 1) := by decide +kernel
theorem d32 : decode yB 32 = .ok (.iinc 1 1, 3) := by decide +kernel
theorem d35 : decode yB 35 = .ok (.iinc 3 1, 3) := by decide +kernel
theorem d38 : decode yB 38 = .ok (.iinc 5 1, 3) := by decide +kernel
theorem d41 : decode yB 41 = .ok (.goto (-38), 3) := by decide +kernel
theorem d44 : decode yB 44 = .ok (.iload 4, 2) := by decide +kernel
theorem d46 : decode yB 46 = .ok (.ireturn, 1) := by decide +kernel
def site : List Cond := []
def tab : Cond := tabOf yN yB 7 (some .int) site
def P (b : Addr) (A : Cell) (d : Addr) (B : Cell) (o q len : Nat) (args : Array Value) (s : State) : Prop := args = #[.ref b, .int (Int32.ofNat o), .ref d, .int (Int32.ofNat q), .int (Int32.ofNat len)] ∧ Ch b A s ∧ Arr .byte d B s ∧ b ≠ d ∧ o + len ≤ A.slots.size ∧ q + len ≤ B.slots.size ∧ ∀ i, i < len → ¬ 255 < cv A (o + i)
def E (b : Addr) (A : Cell) (d : Addr) (B : Cell) (o q len : Nat) (r : Option Value) (s u : State) : Prop := r = some (.int (Int32.ofNat len)) ∧ ∃ B', Put d B' s u ∧ Laid B B' q (q + len) (fun j => Value.int (lo8 (cv A (o + (j - q)))))
/-- no char of the range above 255: len; the places written hold each char's low byte -/
theorem law (l : Launch) (b : Addr) (A : Cell) (d : Addr) (B : Cell) (o q len : Nat) : Law l yN 5 5 0 0 yB 7 (some .int) site (P b A d B o q len) (E b A d B o q len) (copyLocs d q len) 0 0 := by
  refine Law.of_walk (plainFor_of_name (by decide +kernel)) (by decide +kernel) (by decide +kernel) (by decide) (fun _ _ h => by rw [h.1]; rfl) (fun _ U U' hal hh h => ⟨h.1, h.2.1.mv hal hh, h.2.2.1.mv hal hh, h.2.2.2⟩) (fun r U U' V V' h1 hal h2 h => ⟨h.1, h.2.elim fun B' q => ⟨B', q.1.mv h1 h2, q.2⟩⟩) ?_
  intro p e s m args below meth c s₁ X0 hexec hbytes hml hret hlk hnm hown hh0 W hP
  obtain ⟨rfl, hA, hB, hne, l1, l2, hp⟩ := hP
  have c1 : Steps p.tables e below (s₁.setTop (entryFrame m #[.ref b, .int (Int32.ofNat o), .ref d, .int (Int32.ofNat q), .int (Int32.ofNat len)] 7)) (s₁.setTop (mkF m 0 #[.val (.ref b), .val (.int (Int32.ofNat o)), .val (.ref d), .val (.int (Int32.ofNat q)), .val (.int (Int32.ofNat len)), .unset, .unset] [])) := entry rfl
  have hA0 := hA.1.mv X0.warmed.alike hh0
  have hB0 := hB.mv X0.warmed.alike hh0
  have a31 := hA.1.2.2.2
  have c2 : Steps p.tables e below (s₁.setTop (entryFrame m #[.ref b, .int (Int32.ofNat o), .ref d, .int (Int32.ofNat q), .int (Int32.ofNat len)] 7)) (s₁.setTop (mkF m 3 #[.val (.ref b), .val (.int (Int32.ofNat o)), .val (.ref d), .val (.int (Int32.ofNat q)), .val (.int (Int32.ofNat len)), .val (.int 0), .unset] [])) := c1.trans (by
    refine iconstV X0.here hexec rfl 0 (hb hbytes d0) (by decide) ?_
    refine XS.istore X0.here hexec rfl (hb hbytes d1) rfl rfl ?_
    exact Steps.refl _)
  have loop : ∀ (r i : Nat), i + r = len → ∀ (z : Slot), (z = .unset ∨ ∃ w, z = .val w ∧ w.category = 1) → ∀ (Tl : State) (Bk : Cell), Stand p l e { frames := 0, locals := 0, cells := 0, slots := 0 } s m #[.ref b, .int (Int32.ofNat o), .ref d, .int (Int32.ofNat q), .int (Int32.ofNat len)] below meth c Tl ([] ++ copyLocs d q i) 0 0 → Put d Bk s₁ Tl → Laid B Bk q (q + i) (fun j => Value.int (lo8 (cv A (o + (j - q))))) →
      Steps p.tables e below (s₁.setTop (entryFrame m #[.ref b, .int (Int32.ofNat o), .ref d, .int (Int32.ofNat q), .int (Int32.ofNat len)] 7)) (Tl.setTop (mkF m 3 #[.val (.ref b), .val (.int (Int32.ofNat (o + i))), .val (.ref d), .val (.int (Int32.ofNat (q + i))), .val (.int (Int32.ofNat len)), .val (.int (Int32.ofNat i)), z] [])) → ∃ (T' : State) (B' : Cell) (z' : Slot), Stand p l e { frames := 0, locals := 0, cells := 0, slots := 0 } s m #[.ref b, .int (Int32.ofNat o), .ref d, .int (Int32.ofNat q), .int (Int32.ofNat len)] below meth c T' ([] ++ copyLocs d q len) 0 0 ∧ Put d B' s₁ T' ∧ Laid B B' q (q + len) (fun j => Value.int (lo8 (cv A (o + (j - q))))) ∧
      Steps p.tables e below (s₁.setTop (entryFrame m #[.ref b, .int (Int32.ofNat o), .ref d, .int (Int32.ofNat q), .int (Int32.ofNat len)] 7)) (T'.setTop (mkF m 3 #[.val (.ref b), .val (.int (Int32.ofNat (o + len))), .val (.ref d), .val (.int (Int32.ofNat (q + len))), .val (.int (Int32.ofNat len)), .val (.int (Int32.ofNat len)), z'] [])) := by
    intro r
    induction r with
    | zero =>
      intro i hi z hz Tl Bk Xl pl fl cl
      have hil : i = len := by omega
      rw [hil] at Xl fl cl
      exact ⟨Tl, Bk, z, Xl, pl, fl, cl⟩
    | succ r ih =>
      intro i hi z hz Tl Bk Xl pl fl cl
      have all := X0.warmed.alike.symm.trans Xl.warmed.alike
      have hAl := hA0.keep all (pl.other hne hA0.1)
      have hBk := hB0.like all pl.1 fl.1 fl.2.1 fl.2.2.1
      have hlt : q + i < Bk.slots.size := by rw [fl.2.2.1]; omega
      have c3 : Steps p.tables e below (s₁.setTop (entryFrame m #[.ref b, .int (Int32.ofNat o), .ref d, .int (Int32.ofNat q), .int (Int32.ofNat len)] 7)) (Tl.setTop (mkF m 12 #[.val (.ref b), .val (.int (Int32.ofNat (o + i))), .val (.ref d), .val (.int (Int32.ofNat (q + i))), .val (.int (Int32.ofNat len)), .val (.int (Int32.ofNat i)), z] [.int (Int32.ofNat (o + i)), .ref b])) := cl.trans (by
        refine XS.iload Xl.here hexec rfl (hb hbytes d3) rfl ?_
        refine XS.iload Xl.here hexec rfl (hb hbytes d5) rfl ?_
        refine XS.icmpNo Xl.here hexec rfl (hb hbytes d7) rfl (ii_ge_f (lt32 (by omega) (by omega))) ?_
        refine XS.aloadN Xl.here hexec rfl (hb hbytes d10) rfl rfl ?_
        refine XS.iloadN Xl.here hexec rfl (hb hbytes d11) rfl ?_
        exact Steps.refl _)
      have c4 : Steps p.tables e below (s₁.setTop (entryFrame m #[.ref b, .int (Int32.ofNat o), .ref d, .int (Int32.ofNat q), .int (Int32.ofNat len)] 7)) (Tl.setTop (mkF m 13 #[.val (.ref b), .val (.int (Int32.ofNat (o + i))), .val (.ref d), .val (.int (Int32.ofNat (q + i))), .val (.int (Int32.ofNat len)), .val (.int (Int32.ofNat i)), z] [.int (cv A (o + i))])) := c3.trans (by
        refine Xl.aget hexec hAl rfl (hA.get (i := o + i) (by omega)) rfl rfl (hb hbytes d12) ?_
        exact Steps.refl _)
      have c5 : Steps p.tables e below (s₁.setTop (entryFrame m #[.ref b, .int (Int32.ofNat o), .ref d, .int (Int32.ofNat q), .int (Int32.ofNat len)] 7)) (Tl.setTop (mkF m 15 #[.val (.ref b), .val (.int (Int32.ofNat (o + i))), .val (.ref d), .val (.int (Int32.ofNat (q + i))), .val (.int (Int32.ofNat len)), .val (.int (Int32.ofNat i)), .val (.int (cv A (o + i)))] [])) := c4.trans (by
        refine XS.istoreS Xl.here hexec rfl (hb hbytes d13) rfl rfl hz ?_
        exact Steps.refl _)
      have c6 : Steps p.tables e below (s₁.setTop (entryFrame m #[.ref b, .int (Int32.ofNat o), .ref d, .int (Int32.ofNat q), .int (Int32.ofNat len)] 7)) (Tl.setTop (mkF m 31 #[.val (.ref b), .val (.int (Int32.ofNat (o + i))), .val (.ref d), .val (.int (Int32.ofNat (q + i))), .val (.int (Int32.ofNat len)), .val (.int (Int32.ofNat i)), .val (.int (cv A (o + i)))] [.int (lo8 (cv A (o + i))), .int (Int32.ofNat (q + i)), .ref d])) := c5.trans (by
        refine XS.iload Xl.here hexec rfl (hb hbytes d15) rfl ?_
        refine sipushV Xl.here hexec rfl 255 (hb hbytes d17) (by decide) ?_
        refine XS.icmpYes Xl.here hexec rfl (pc0 := 20) rfl (hb hbytes d20) rfl (ii_le_t (hp i (by omega))) (by decide) rfl ?_
        refine XS.aloadN Xl.here hexec rfl (hb hbytes d26) rfl rfl ?_
        refine XS.iloadN Xl.here hexec rfl (hb hbytes d27) rfl ?_
        refine XS.iload Xl.here hexec rfl (hb hbytes d28) rfl ?_
        refine i2b Xl.here hexec rfl (hb hbytes d30) rfl ?_
        exact Steps.refl _)
      obtain ⟨T7, X7, p7, st7⟩ := Xl.aput hexec hBk rfl hlt rfl (fits_lo8 (cv A (o + i))) (g := (mkF m 31 #[.val (.ref b), .val (.int (Int32.ofNat (o + i))), .val (.ref d), .val (.int (Int32.ofNat (q + i))), .val (.int (Int32.ofNat len)), .val (.int (Int32.ofNat i)), .val (.int (cv A (o + i)))] [.int (lo8 (cv A (o + i))), .int (Int32.ofNat (q + i)), .ref d])) rfl (rest := []) rfl (hb hbytes d31)
      have c8 : Steps p.tables e below (s₁.setTop (entryFrame m #[.ref b, .int (Int32.ofNat o), .ref d, .int (Int32.ofNat q), .int (Int32.ofNat len)] 7)) (T7.setTop (mkF m 32 #[.val (.ref b), .val (.int (Int32.ofNat (o + i))), .val (.ref d), .val (.int (Int32.ofNat (q + i))), .val (.int (Int32.ofNat len)), .val (.int (Int32.ofNat i)), .val (.int (cv A (o + i)))] [])) := c6.trans (st7 _ (Steps.refl _))
      have c9 : Steps p.tables e below (s₁.setTop (entryFrame m #[.ref b, .int (Int32.ofNat o), .ref d, .int (Int32.ofNat q), .int (Int32.ofNat len)] 7)) (T7.setTop (mkF m 3 #[.val (.ref b), .val (.int (Int32.ofNat (o + i) + 1)), .val (.ref d), .val (.int (Int32.ofNat (q + i) + 1)), .val (.int (Int32.ofNat len)), .val (.int (Int32.ofNat i + 1)), .val (.int (cv A (o + i)))] [])) := c8.trans (by
        refine iincV X7.here hexec rfl 1 (hb hbytes d32) (by decide) rfl rfl ?_
        refine iincV X7.here hexec rfl 1 (hb hbytes d35) (by decide) rfl rfl ?_
        refine iincV X7.here hexec rfl 1 (hb hbytes d38) (by decide) rfl rfl ?_
        refine XS.goto X7.here hexec rfl (pc0 := 41) rfl (hb hbytes d41) (by decide) rfl ?_
        exact Steps.refl _)
      have c10 : Steps p.tables e below (s₁.setTop (entryFrame m #[.ref b, .int (Int32.ofNat o), .ref d, .int (Int32.ofNat q), .int (Int32.ofNat len)] 7)) (T7.setTop (mkF m 3 #[.val (.ref b), .val (.int (Int32.ofNat (o + (i + 1)))), .val (.ref d), .val (.int (Int32.ofNat (q + (i + 1)))), .val (.int (Int32.ofNat len)), .val (.int (Int32.ofNat (i + 1))), .val (.int (cv A (o + i)))] [])) := by
        have := c9
        rw [succ32, succ32, succ32] at this
        exact this
      exact ih (i + 1) (by omega) _ (Or.inr ⟨_, rfl, rfl⟩) T7 _ (by rw [copyLocs_step, ← List.append_assoc]; exact X7) (pl.trans p7) (fl.step (by omega) hlt (by simp)) c10
  obtain ⟨T9, B9, z9, X9, p9, f9, g9⟩ := loop len 0 (by omega) .unset (Or.inl rfl) s₁ B (by simpa [copyLocs] using X0) ⟨hB0.1, fun _ _ => rfl, rfl⟩ (Laid.zero _ _ _) c2
  have c11 : Steps p.tables e below (s₁.setTop (entryFrame m #[.ref b, .int (Int32.ofNat o), .ref d, .int (Int32.ofNat q), .int (Int32.ofNat len)] 7)) (T9.setTop (mkF m 46 #[.val (.ref b), .val (.int (Int32.ofNat (o + len))), .val (.ref d), .val (.int (Int32.ofNat (q + len))), .val (.int (Int32.ofNat len)), .val (.int (Int32.ofNat len)), z9] [.int (Int32.ofNat len)])) := g9.trans (by
    refine XS.iload X9.here hexec rfl (hb hbytes d3) rfl ?_
    refine XS.iload X9.here hexec rfl (hb hbytes d5) rfl ?_
    refine XS.icmpYes X9.here hexec rfl (pc0 := 7) rfl (hb hbytes d7) rfl (ii_ge_t (nlt32 (by omega) (Nat.le_refl _))) (by decide) rfl ?_
    refine XS.iload X9.here hexec rfl (hb hbytes d44) rfl ?_
    exact Steps.refl _)
  exact ⟨T9, some (.int (Int32.ofNat len)), _, _, _, X9, by simp, rfl, rfl, (fun h => by cases h), ⟨rfl, B9, p9.from hh0, f9⟩, fun fs hl => c11.trans (X9.ireturnOut hexec hret rfl (Or.inl rfl) (hb hbytes d46) hl)⟩
end Cmp5
namespace Cmp3
def yN : MethodName := ⟨"java/lang/StringUTF16", "compress", "([CII)[B"⟩
abbrev yB : ByteArray := jdk_52_method_16_code
theorem d0 : decode yB 0 = .ok (.iload_n 2, 1) := by decide +kernel
theorem d1 : decode yB 1 = .ok (.newarray .byte, 2) := by decide +kernel
theorem d3 : decode yB 3 = .ok (.astore_n 3, 1) := by decide +kernel
theorem d4 : decode yB 4 = .ok (.aload_n 0, 1) := by decide +kernel
theorem d5 : decode yB 5 = .ok (.iload_n 1, 1) := by decide +kernel
theorem d6 : decode yB 6 = .ok (.aload_n 3, 1) := by decide +kernel
theorem d7 : decode yB 7 = .ok (.iconst 0, 1) := by decide +kernel
theorem d8 : decode yB 8 = .ok (.iload_n 2, 1) := by decide +kernel
theorem d9 : decode yB 9 = .ok (.invokestatic 115, 3) := by decide +kernel
theorem d12 : decode yB 12 = .ok (.istore 4, 2) := by decide +kernel
theorem d14 : decode yB 14 = .ok (.iload 4, 2) := by decide +kernel
theorem d16 : decode yB 16 = .ok (.iload_n 2, 1) := by decide +kernel
theorem d17 : decode yB 17 = .ok (.if_icmp (.eq) 40, 3) := by decide +kernel
theorem d57 : decode yB 57 = .ok (.aload_n 3, 1) := by decide +kernel
theorem d58 : decode yB 58 = .ok (.areturn, 1) := by decide +kernel
def site : List Cond := [.arrayClass .byte, Cmp5.tab] ++ staticW U16 115 Cmp5.yN
def tab : Cond := tabOf yN yB 6 (some (.array .byte)) site
def P (b : Addr) (A : Cell) (o len : Nat) (args : Array Value) (s : State) : Prop := args = #[.ref b, .int (Int32.ofNat o), .int (Int32.ofNat len)] ∧ Ch b A s ∧ o + len ≤ A.slots.size ∧ len ≤ 536870912 ∧ ∀ i, i < len → ¬ 255 < cv A (o + i)
def E (b : Addr) (A : Cell) (o len : Nat) (r : Option Value) (s u : State) : Prop := NewArr .byte "[B" len (fun j => .int (lo8 (cv A (o + j)))) r s u ∧ u.heap.size = s.heap.size + 1
/-- no char of the range above 255: a new byte[] of their low bytes -/
theorem law (l : Launch) (b : Addr) (A : Cell) (o len : Nat) : Law l yN 3 3 1 18 yB 6 (some (.array .byte)) site (P b A o len) (E b A o len) [] 1 len := by
  refine Law.of_walk (plainFor_of_name (by decide +kernel)) (by decide +kernel) (by decide +kernel) (by decide) (fun _ _ h => by rw [h.1]; rfl) (fun _ U U' hal hh h => ⟨h.1, h.2.1.mv hal hh, h.2.2⟩) (fun r U U' V V' h1 hal h2 h => ⟨NewArr.mv r U U' V V' h1 hal h2 h.1, by rw [h1, h2]; exact h.2⟩) ?_
  intro p e s m args below meth c s₁ X0 hexec hbytes hml hret hlk hnm hown hh0 W hP
  obtain ⟨rfl, hA, l1, l2, hp⟩ := hP
  have a31 := hA.1.2.2.2
  have c1 : Steps p.tables e below (s₁.setTop (entryFrame m #[.ref b, .int (Int32.ofNat o), .int (Int32.ofNat len)] 6)) (s₁.setTop (mkF m 0 #[.val (.ref b), .val (.int (Int32.ofNat o)), .val (.int (Int32.ofNat len)), .unset, .unset, .unset] [])) := entry rfl
  have c2 : Steps p.tables e below (s₁.setTop (entryFrame m #[.ref b, .int (Int32.ofNat o), .int (Int32.ofNat len)] 6)) (s₁.setTop (mkF m 1 #[.val (.ref b), .val (.int (Int32.ofNat o)), .val (.int (Int32.ofNat len)), .unset, .unset, .unset] [.int (Int32.ofNat len)])) := c1.trans (by
    refine XS.iloadN X0.here hexec rfl (hb hbytes d0) rfl ?_
    exact Steps.refl _)
  obtain ⟨T3, B3, X3, ba3, bs3, bv3, bh3, bf3, st3⟩ := X0.anew hexec (atype := .byte) (wk W (.arrayClass .byte)) rfl (by show len * 1 ≤ _; omega) (by omega) (g := (mkF m 1 #[.val (.ref b), .val (.int (Int32.ofNat o)), .val (.int (Int32.ofNat len)), .unset, .unset, .unset] [.int (Int32.ofNat len)])) rfl (hb hbytes d1) (rest := []) rfl (Nat.le_refl _) (by show 0 + len ≤ len; omega)
  rw [hh0] at ba3 st3
  have kp3 : XT.Kept s T3 := (XT.Kept.of_eq hh0).push bh3
  have hA3 := hA.keep X3.warmed.alike (kp3 _ _ hA.1.1)
  have hne : b ≠ s.heap.size := hA.1.ne
  have c4 : Steps p.tables e below (s₁.setTop (entryFrame m #[.ref b, .int (Int32.ofNat o), .int (Int32.ofNat len)] 6)) (T3.setTop (mkF m 3 #[.val (.ref b), .val (.int (Int32.ofNat o)), .val (.int (Int32.ofNat len)), .unset, .unset, .unset] [.ref s.heap.size])) := c2.trans (st3 _ (Steps.refl _))
  have c5 : Steps p.tables e below (s₁.setTop (entryFrame m #[.ref b, .int (Int32.ofNat o), .int (Int32.ofNat len)] 6)) (T3.setTop (mkF m 9 #[.val (.ref b), .val (.int (Int32.ofNat o)), .val (.int (Int32.ofNat len)), .val (.ref s.heap.size), .unset, .unset] [.int (Int32.ofNat len), .int 0, .ref s.heap.size, .int (Int32.ofNat o), .ref b])) := c4.trans (by
    refine XS.astoreN X3.here hexec rfl (hb hbytes d3) rfl rfl rfl ?_
    refine XS.aloadN X3.here hexec rfl (hb hbytes d4) rfl rfl ?_
    refine XS.iloadN X3.here hexec rfl (hb hbytes d5) rfl ?_
    refine XS.aloadN X3.here hexec rfl (hb hbytes d6) rfl rfl ?_
    refine iconstV X3.here hexec rfl 0 (hb hbytes d7) (by decide) ?_
    refine XS.iloadN X3.here hexec rfl (hb hbytes d8) rfl ?_
    exact Steps.refl _)
  obtain ⟨v6, T6, X6, E6, g6⟩ := X3.callS hexec (Cmp5.law l b A s.heap.size B3 o 0 len) hown (wks W (staticW U16 115 Cmp5.yN)) (wk W Cmp5.tab) (W := 0) (Nat.le_of_ble_eq_true rfl) (Nat.le_of_ble_eq_true rfl) (Nat.le_refl _) (by show 0 + len + 0 ≤ len; omega) (g := (mkF m 9 #[.val (.ref b), .val (.int (Int32.ofNat o)), .val (.int (Int32.ofNat len)), .val (.ref s.heap.size), .unset, .unset] [.int (Int32.ofNat len), .int (Int32.ofNat 0), .ref s.heap.size, .int (Int32.ofNat o), .ref b])) rfl (by rw [hml]; rfl) c5 (argsL := [.ref b, .int (Int32.ofNat o), .ref s.heap.size, .int (Int32.ofNat 0), .int (Int32.ofNat len)]) (rest := []) rfl rfl (by show 2 * 0 + 0 ≤ _; decide) (hb hbytes d9) (⟨rfl, hA3, ba3, hne, l1, by rw [bs3]; simp, hp⟩)
  obtain ⟨rfl, B6, p6, f6⟩ := E6
  have c7 : Steps p.tables e below (s₁.setTop (entryFrame m #[.ref b, .int (Int32.ofNat o), .int (Int32.ofNat len)] 6)) (T6.setTop (mkF m 12 #[.val (.ref b), .val (.int (Int32.ofNat o)), .val (.int (Int32.ofNat len)), .val (.ref s.heap.size), .unset, .unset] [.int (Int32.ofNat len)])) := g6
  have c8 : Steps p.tables e below (s₁.setTop (entryFrame m #[.ref b, .int (Int32.ofNat o), .int (Int32.ofNat len)] 6)) (T6.setTop (mkF m 58 #[.val (.ref b), .val (.int (Int32.ofNat o)), .val (.int (Int32.ofNat len)), .val (.ref s.heap.size), .val (.int (Int32.ofNat len)), .unset] [.ref s.heap.size])) := c7.trans (by
    refine XS.istore X6.here hexec rfl (hb hbytes d12) rfl rfl ?_
    refine XS.iload X6.here hexec rfl (hb hbytes d14) rfl ?_
    refine XS.iloadN X6.here hexec rfl (hb hbytes d16) rfl ?_
    refine XS.icmpYes X6.here hexec rfl (pc0 := 17) rfl (hb hbytes d17) rfl (ii_eq_t rfl) (by decide) rfl ?_
    refine XS.aloadN X6.here hexec rfl (hb hbytes d57) rfl rfl ?_
    exact Steps.refl _)
  have X8 := X6.wide (L' := []) (cells' := 1) (slots' := len) (fun x hx hlt => by
    simp only [List.nil_append, copyLocs, List.mem_map, List.mem_range] at hx
    obtain ⟨i, -, rfl⟩ := hx
    exact absurd hlt (Nat.lt_irrefl _)) (Nat.le_refl _) (by omega)
  exact ⟨T6, some (.ref s.heap.size), _, _, _, X8, rfl, rfl, rfl, (fun h => by cases h), ⟨⟨rfl, B6, ba3.like (X3.warmed.alike.symm.trans X6.warmed.alike) p6.1 f6.1 f6.2.1 f6.2.2.1, f6.2.1.trans bv3, by rw [X6.warmed.alike.findClass, f6.1]; exact bf3, by rw [f6.2.2.1, bs3]; simp, fun j hj => by rw [f6.2.2.2 j, if_pos (by omega)]; rfl, kp3.put p6 (Nat.le_refl _)⟩, by rw [p6.2.2, bh3, hh0]; simp⟩, fun fs hl => c8.trans (X8.areturnOut hexec rfl hret rfl (hb hbytes d58) hl)⟩
end Cmp3
namespace CodL
def yN : MethodName := ⟨"java/lang/StringUTF16", "coderFromArrayLen", "([BI)B"⟩
abbrev yB : ByteArray := jdk_52_method_15_code
theorem d0 : decode yB 0 = .ok (.iload_n 1, 1) := by decide +kernel
theorem d1 : decode yB 1 = .ok (.aload_n 0, 1) := by decide +kernel
theorem d2 : decode yB 2 = .ok (.arraylength, 1) := by decide +kernel
theorem d3 : decode yB 3 = .ok (.isub, 1) := by decide +kernel
theorem d4 : decode yB 4 = .ok (.bipush 31, 2) := by decide +kernel
theorem d6 : decode yB 6 = .ok (.iushr, 1) := by decide +kernel
theorem d7 : decode yB 7 = .ok (.i2b, 1) := by decide +kernel
theorem d8 : decode yB 8 = .ok (.ireturn, 1) := by decide +kernel
def site : List Cond := []
def tab : Cond := tabOf yN yB 2 (some .byte) site
def P (d : Addr) (B : Cell) (args : Array Value) (s : State) : Prop := args = #[.ref d, .int (Int32.ofNat B.slots.size)] ∧ Arr .byte d B s
def E (r : Option Value) (s u : State) : Prop := XT.PureE (some (.int 0)) r s u
/-- an array as long as the number of chars: LATIN1 -/
theorem law (l : Launch) (d : Addr) (B : Cell) : Law l yN 2 2 0 0 yB 2 (some .byte) site (P d B) E [] 0 0 := by
  refine Law.of_walk (plainFor_of_name (by decide +kernel)) (by decide +kernel) (by decide +kernel) (by decide) (fun _ _ h => by rw [h.1]; rfl) (fun _ U U' hal hh h => ⟨h.1, h.2.mv hal hh⟩) (fun r U U' V V' h1 hal h2 h => XT.PureE.mv r U U' V V' h1 hal h2 h) ?_
  intro p e s m args below meth c s₁ X0 hexec hbytes hml hret hlk hnm hown hh0 W hP
  obtain ⟨rfl, hB⟩ := hP
  have hB0 := hB.mv X0.warmed.alike hh0
  have c1 : Steps p.tables e below (s₁.setTop (entryFrame m #[.ref d, .int (Int32.ofNat B.slots.size)] 2)) (s₁.setTop (mkF m 0 #[.val (.ref d), .val (.int (Int32.ofNat B.slots.size))] [])) := entry rfl
  have c2 : Steps p.tables e below (s₁.setTop (entryFrame m #[.ref d, .int (Int32.ofNat B.slots.size)] 2)) (s₁.setTop (mkF m 2 #[.val (.ref d), .val (.int (Int32.ofNat B.slots.size))] [.ref d, .int (Int32.ofNat B.slots.size)])) := c1.trans (by
    refine XS.iloadN X0.here hexec rfl (hb hbytes d0) rfl ?_
    refine XS.aloadN X0.here hexec rfl (hb hbytes d1) rfl rfl ?_
    exact Steps.refl _)
  have c3 : Steps p.tables e below (s₁.setTop (entryFrame m #[.ref d, .int (Int32.ofNat B.slots.size)] 2)) (s₁.setTop (mkF m 8 #[.val (.ref d), .val (.int (Int32.ofNat B.slots.size))] [.int (lo8 (ushr (Int32.ofNat B.slots.size - Int32.ofNat B.slots.size) 31))])) := c2.trans (by
    refine X0.alen hexec hB0 rfl rfl (hb hbytes d2) ?_
    refine XS.isub X0.here hexec rfl (hb hbytes d3) rfl ?_
    refine bipushV X0.here hexec rfl 31 (hb hbytes d4) (by decide) ?_
    refine iushr X0.here hexec rfl (hb hbytes d6) rfl ?_
    refine i2b X0.here hexec rfl (hb hbytes d7) rfl ?_
    exact Steps.refl _)
  have e0 : lo8 (ushr (Int32.ofNat B.slots.size - Int32.ofNat B.slots.size) 31) = 0 := by rw [Int32.sub_self]; decide
  rw [e0] at c3
  exact ⟨s₁, some (.int 0), _, _, _, X0, rfl, rfl, rfl, (fun h => by cases h), ⟨rfl, hh0⟩, fun fs hl => c3.trans (X0.ireturnOut hexec hret rfl (Or.inr (Or.inr (Or.inl rfl))) (hb hbytes d8) hl)⟩
end CodL
/-- the String at a is Latin-1 over a new byte[] (the heap's one new cell): the low bytes of the len chars of A from o on; every cell but a is kept -/
def Got (a : Addr) (D : Cell) (fV fC : Field) (A : Cell) (o len : Nat) (r : Option Value) (s u : State) : Prop := r = none ∧ ∃ D' V : Cell, Blank "java/lang/String" a D' u ∧ Same D D' [fV.slot, fC.slot] ∧ D'.slots[fV.slot]? = some (.ref s.heap.size) ∧ D'.slots[fC.slot]? = some (.int 0) ∧ Arr .byte s.heap.size V u ∧ V.vm = .none ∧ u.vm.findClass "[B" = some V.cls ∧ V.slots.size = len ∧ (∀ j, j < len → V.slots[j]? = some (.int (lo8 (cv A (o + j))))) ∧ (∀ (y : Addr) (c : Cell), y ≠ a → s.heap[y]? = some c → u.heap[y]? = some c) ∧ u.heap.size = s.heap.size + 1
theorem Got.mv {a : Addr} {D A : Cell} {fV fC : Field} {o len : Nat} : ∀ r (U U' V V' : State), U'.heap = U.heap → V.vm.Alike V'.vm → V'.heap = V.heap → Got a D fV fC A o len r U V → Got a D fV fC A o len r U' V' :=
  fun r U U' V V' h1 hal h2 ⟨e0, D', X, a1, a2, a3, a4, a5, a6, a7, a8, a9, a10, a11⟩ => ⟨e0, D', X, a1.mv hal h2, a2, by rw [h1]; exact a3, a4, by rw [h1]; exact a5.mv hal h2, a6, by rw [hal.findClass]; exact a7, a8, a9, by rw [h1, h2]; exact a10, by rw [h1, h2]; exact a11⟩
namespace New4
def yN : MethodName := ⟨"java/lang/String", "<init>", "([CIILjava/lang/Void;)V"⟩
abbrev yB : ByteArray := jdk_42_method_149_code
theorem d0 : decode yB 0 = .ok (.aload_n 0, 1) := by decide +kernel
theorem d1 : decode yB 1 = .ok (.invokespecial 1, 3) := by decide +kernel
theorem d4 : decode yB 4 = .ok (.iload_n 3, 1) := by decide +kernel
theorem d5 : decode yB 5 = .ok (.ifCond (.ne) 22, 3) := by decide +kernel
theorem d27 : decode yB 27 = .ok (.getstatic 38, 3) := by decide +kernel
theorem d30 : decode yB 30 = .ok (.ifCond (.eq) 28, 3) := by decide +kernel
theorem d33 : decode yB 33 = .ok (.aload_n 1, 1) := by decide +kernel
theorem d34 : decode yB 34 = .ok (.iload_n 2, 1) := by decide +kernel
theorem d35 : decode yB 35 = .ok (.iload_n 3, 1) := by decide +kernel
theorem d36 : decode yB 36 = .ok (.invokestatic 177, 3) := by decide +kernel
theorem d39 : decode yB 39 = .ok (.astore 5, 2) := by decide +kernel
theorem d41 : decode yB 41 = .ok (.aload_n 0, 1) := by decide +kernel
theorem d42 : decode yB 42 = .ok (.aload 5, 2) := by decide +kernel
theorem d44 : decode yB 44 = .ok (.iload_n 3, 1) := by decide +kernel
theorem d45 : decode yB 45 = .ok (.invokestatic 47, 3) := by decide +kernel
theorem d48 : decode yB 48 = .ok (.putfield 15, 3) := by decide +kernel
theorem d51 : decode yB 51 = .ok (.aload_n 0, 1) := by decide +kernel
theorem d52 : decode yB 52 = .ok (.aload 5, 2) := by decide +kernel
theorem d54 : decode yB 54 = .ok (.putfield 9, 3) := by decide +kernel
theorem d57 : decode yB 57 = .ok (.return_, 1) := by decide +kernel
def site : List Cond := [.fieldLink "java/lang/String" 38 "java/lang/String" "COMPACT_STRINGS" "Z", Cmp3.tab, CodL.tab, .laysFinal "java/lang/String" "java/lang/String" "value" "[B", .fieldLink "java/lang/String" 9 "java/lang/String" "value" "[B", .laysFinal "java/lang/String" "java/lang/String" "coder" "B", .fieldLink "java/lang/String" 15 "java/lang/String" "coder" "B"] ++ objW "java/lang/String" 1 ++ staticW "java/lang/String" 177 Cmp3.yN ++ staticW "java/lang/String" 47 CodL.yN
def tab : Cond := tabOf yN yB 6 none site
def P (a : Addr) (D : Cell) (fV fC : Field) (b : Addr) (A : Cell) (z : Int32) (o len : Nat) (args : Array Value) (s : State) : Prop := args = #[.ref a, .ref b, .int (Int32.ofNat o), .int (Int32.ofNat len), .null] ∧ Blank "java/lang/String" a D s ∧ Found "java/lang/String" "value" "[B" fV s ∧ Found "java/lang/String" "coder" "B" fC s ∧ Ch b A s ∧ StaticIs s "java/lang/String" "COMPACT_STRINGS" "Z" (.int z) ∧ ¬ z = 0 ∧ 0 < len ∧ o + len ≤ A.slots.size ∧ len ≤ 536870912 ∧ ∀ i, i < len → ¬ 255 < cv A (o + i)
def E (a : Addr) (D : Cell) (fV fC : Field) (A : Cell) (o len : Nat) (r : Option Value) (s u : State) : Prop := Got a D fV fC A o len r s u
/-- len > 0, no char of the range above 255: a Latin-1 String of their low bytes -/
theorem law (l : Launch) (a : Addr) (D : Cell) (fV fC : Field) (b : Addr) (A : Cell) (z : Int32) (o len : Nat) : Law l yN 5 4 2 35 yB 6 none site (P a D fV fC b A z o len) (E a D fV fC A o len) [⟨a, fC.slot⟩, ⟨a, fV.slot⟩] 1 len := by
  refine Law.of_walk (plainFor_of_name (by decide +kernel)) (by decide +kernel) (by decide +kernel) (by decide) (fun _ _ h => by rw [h.1]; rfl) (fun _ U U' hal hh h => ⟨h.1, h.2.1.mv hal hh, h.2.2.1.al hal, h.2.2.2.1.al hal, h.2.2.2.2.1.mv hal hh, h.2.2.2.2.2.1.there hal hh, h.2.2.2.2.2.2⟩) (fun r U U' V V' h1 hal h2 h => Got.mv r U U' V V' h1 hal h2 h) ?_
  intro p e s m args below meth c s₁ X0 hexec hbytes hml hret hlk hnm hown hh0 W hP
  obtain ⟨rfl, hB, f1, f2, hA, s1, hz, l0, l1, l2, hp⟩ := hP
  have a31 := hA.1.2.2.2
  have c1 : Steps p.tables e below (s₁.setTop (entryFrame m #[.ref a, .ref b, .int (Int32.ofNat o), .int (Int32.ofNat len), .null] 6)) (s₁.setTop (mkF m 0 #[.val (.ref a), .val (.ref b), .val (.int (Int32.ofNat o)), .val (.int (Int32.ofNat len)), .val .null, .unset] [])) := entry rfl
  have c2 : Steps p.tables e below (s₁.setTop (entryFrame m #[.ref a, .ref b, .int (Int32.ofNat o), .int (Int32.ofNat len), .null] 6)) (s₁.setTop (mkF m 1 #[.val (.ref a), .val (.ref b), .val (.int (Int32.ofNat o)), .val (.int (Int32.ofNat len)), .val .null, .unset] [.ref a])) := c1.trans (by
    refine XS.aloadN X0.here hexec rfl (hb hbytes d0) rfl rfl ?_
    exact Steps.refl _)
  obtain ⟨T3, X3, q3, st3⟩ := X0.oinit hexec hown (wks W (objW "java/lang/String" 1)) (g := (mkF m 1 #[.val (.ref a), .val (.ref b), .val (.int (Int32.ofNat o)), .val (.int (Int32.ofNat len)), .val .null, .unset] [.ref a])) rfl (by rw [hml]; rfl) (rest := []) rfl (hb hbytes d1) (W := 0) (by show 2 * 0 + 0 ≤ _; decide) (Nat.le_of_ble_eq_true rfl) (Nat.le_of_ble_eq_true rfl)
  have hh3 := q3.trans hh0
  have c4 : Steps p.tables e below (s₁.setTop (entryFrame m #[.ref a, .ref b, .int (Int32.ofNat o), .int (Int32.ofNat len), .null] 6)) (T3.setTop (mkF m 27 #[.val (.ref a), .val (.ref b), .val (.int (Int32.ofNat o)), .val (.int (Int32.ofNat len)), .val .null, .unset] [])) := (c2.trans (st3 _ (Steps.refl _))).trans (by
    refine XS.iloadN X3.here hexec rfl (hb hbytes d4) rfl ?_
    refine XS.ifYes X3.here hexec rfl (pc0 := 5) rfl (hb hbytes d5) rfl (i0_ne_t (nz32 (by omega) l0)) (by decide) rfl ?_
    exact Steps.refl _)
  obtain ⟨T5, X5, q5, st5⟩ := X3.sget hexec hown (wk W (.fieldLink "java/lang/String" 38 "java/lang/String" "COMPACT_STRINGS" "Z")) s1 (fun _ _ h => by rw [hh3]; exact h) (g := (mkF m 27 #[.val (.ref a), .val (.ref b), .val (.int (Int32.ofNat o)), .val (.int (Int32.ofNat len)), .val .null, .unset] [])) rfl (hb hbytes d27)
  have hh5 := q5.trans hh3
  have c6 : Steps p.tables e below (s₁.setTop (entryFrame m #[.ref a, .ref b, .int (Int32.ofNat o), .int (Int32.ofNat len), .null] 6)) (T5.setTop (mkF m 30 #[.val (.ref a), .val (.ref b), .val (.int (Int32.ofNat o)), .val (.int (Int32.ofNat len)), .val .null, .unset] [.int z])) := c4.trans (st5 _ (Steps.refl _))
  have c7 : Steps p.tables e below (s₁.setTop (entryFrame m #[.ref a, .ref b, .int (Int32.ofNat o), .int (Int32.ofNat len), .null] 6)) (T5.setTop (mkF m 36 #[.val (.ref a), .val (.ref b), .val (.int (Int32.ofNat o)), .val (.int (Int32.ofNat len)), .val .null, .unset] [.int (Int32.ofNat len), .int (Int32.ofNat o), .ref b])) := c6.trans (by
    refine XS.ifNo X5.here hexec rfl (hb hbytes d30) rfl (i0_eq_f hz) ?_
    refine XS.aloadN X5.here hexec rfl (hb hbytes d33) rfl rfl ?_
    refine XS.iloadN X5.here hexec rfl (hb hbytes d34) rfl ?_
    refine XS.iloadN X5.here hexec rfl (hb hbytes d35) rfl ?_
    exact Steps.refl _)
  obtain ⟨v8, T8, X8, E8, g8⟩ := X5.callS hexec (Cmp3.law l b A o len) hown (wks W (staticW "java/lang/String" 177 Cmp3.yN)) (wk W Cmp3.tab) (W := 0) (Nat.le_of_ble_eq_true rfl) (Nat.le_of_ble_eq_true rfl) (Nat.le_refl _) (by show 0 + len ≤ len; omega) (g := (mkF m 36 #[.val (.ref a), .val (.ref b), .val (.int (Int32.ofNat o)), .val (.int (Int32.ofNat len)), .val .null, .unset] [.int (Int32.ofNat len), .int (Int32.ofNat o), .ref b])) rfl (by rw [hml]; rfl) c7 (argsL := [.ref b, .int (Int32.ofNat o), .int (Int32.ofNat len)]) (rest := []) rfl rfl (by show 2 * 0 + 0 ≤ _; decide) (hb hbytes d36) (⟨rfl, hA.mv X5.warmed.alike hh5, l1, l2, hp⟩)
  obtain ⟨e8, z8⟩ := E8
  obtain ⟨rfl, N, n1, n2, n3, n4, n5, n6⟩ := NewArr.mv _ T5 s _ _ hh5.symm (Vm.Alike.refl _) rfl e8
  rw [hh5] at z8
  have hB1 := hB.keep X8.warmed.alike (n6 _ _ hB.1)
  have hne : s.heap.size ≠ a := (Nat.ne_of_lt (Array.getElem?_eq_some_iff.mp hB.1).1).symm
  have c9 : Steps p.tables e below (s₁.setTop (entryFrame m #[.ref a, .ref b, .int (Int32.ofNat o), .int (Int32.ofNat len), .null] 6)) (T8.setTop (mkF m 39 #[.val (.ref a), .val (.ref b), .val (.int (Int32.ofNat o)), .val (.int (Int32.ofNat len)), .val .null, .unset] [.ref s.heap.size])) := g8
  have c10 : Steps p.tables e below (s₁.setTop (entryFrame m #[.ref a, .ref b, .int (Int32.ofNat o), .int (Int32.ofNat len), .null] 6)) (T8.setTop (mkF m 45 #[.val (.ref a), .val (.ref b), .val (.int (Int32.ofNat o)), .val (.int (Int32.ofNat len)), .val .null, .val (.ref s.heap.size)] [.int (Int32.ofNat N.slots.size), .ref s.heap.size, .ref a])) := by
    have hc : Steps p.tables e below (s₁.setTop (entryFrame m #[.ref a, .ref b, .int (Int32.ofNat o), .int (Int32.ofNat len), .null] 6)) (T8.setTop (mkF m 45 #[.val (.ref a), .val (.ref b), .val (.int (Int32.ofNat o)), .val (.int (Int32.ofNat len)), .val .null, .val (.ref s.heap.size)] [.int (Int32.ofNat len), .ref s.heap.size, .ref a])) := c9.trans (by
      refine XS.astore X8.here hexec rfl (hb hbytes d39) rfl rfl rfl ?_
      refine XS.aloadN X8.here hexec rfl (hb hbytes d41) rfl rfl ?_
      refine XS.aload X8.here hexec rfl (hb hbytes d42) rfl rfl ?_
      refine XS.iloadN X8.here hexec rfl (hb hbytes d44) rfl ?_
      exact Steps.refl _)
    rw [n4]; exact hc
  obtain ⟨v11, T11, X11, E11, g11⟩ := X8.callS hexec (CodL.law l s.heap.size N) hown (wks W (staticW "java/lang/String" 47 CodL.yN)) (wk W CodL.tab) (W := 1) (Nat.le_of_ble_eq_true rfl) (Nat.le_of_ble_eq_true rfl) (Nat.le_refl _) (by show 0 + len + 0 ≤ len; omega) (g := (mkF m 45 #[.val (.ref a), .val (.ref b), .val (.int (Int32.ofNat o)), .val (.int (Int32.ofNat len)), .val .null, .val (.ref s.heap.size)] [.int (Int32.ofNat N.slots.size), .ref s.heap.size, .ref a])) rfl (by rw [hml]; rfl) c10 (argsL := [.ref s.heap.size, .int (Int32.ofNat N.slots.size)]) (rest := [.ref a]) rfl rfl (by show 2 * 0 + (1 + 0) ≤ _; decide) (hb hbytes d45) (⟨rfl, n1⟩)
  obtain ⟨rfl, q11⟩ := E11
  have hB11 := hB1.mv (X8.warmed.alike.symm.trans X11.warmed.alike) q11
  have c12 : Steps p.tables e below (s₁.setTop (entryFrame m #[.ref a, .ref b, .int (Int32.ofNat o), .int (Int32.ofNat len), .null] 6)) (T11.setTop (mkF m 48 #[.val (.ref a), .val (.ref b), .val (.int (Int32.ofNat o)), .val (.int (Int32.ofNat len)), .val .null, .val (.ref s.heap.size)] [.int 0, .ref a])) := g11
  obtain ⟨T13, X13, p13, bl13, sl13, st13⟩ := X11.finit hexec hown (wk W (.fieldLink "java/lang/String" 15 "java/lang/String" "coder" "B")) (Or.inr ⟨_, (wk W (.laysFinal "java/lang/String" "java/lang/String" "coder" "B"))⟩) (Or.inl ⟨rfl, hnm⟩) f2 (Or.inl rfl) hB11 (t := .byte) (by decide +kernel) rfl (g := (mkF m 48 #[.val (.ref a), .val (.ref b), .val (.int (Int32.ofNat o)), .val (.int (Int32.ofNat len)), .val .null, .val (.ref s.heap.size)] [.int 0, .ref a])) rfl (rest := []) rfl (hb hbytes d48)
  have c14 : Steps p.tables e below (s₁.setTop (entryFrame m #[.ref a, .ref b, .int (Int32.ofNat o), .int (Int32.ofNat len), .null] 6)) (T13.setTop (mkF m 54 #[.val (.ref a), .val (.ref b), .val (.int (Int32.ofNat o)), .val (.int (Int32.ofNat len)), .val .null, .val (.ref s.heap.size)] [.ref s.heap.size, .ref a])) := (c12.trans (st13 _ (Steps.refl _))).trans (by
    refine XS.aloadN X13.here hexec rfl (hb hbytes d51) rfl rfl ?_
    refine XS.aload X13.here hexec rfl (hb hbytes d52) rfl rfl ?_
    exact Steps.refl _)
  obtain ⟨T15, X15, p15, bl15, sl15, st15⟩ := X13.finit hexec hown (wk W (.fieldLink "java/lang/String" 9 "java/lang/String" "value" "[B")) (Or.inr ⟨_, (wk W (.laysFinal "java/lang/String" "java/lang/String" "value" "[B"))⟩) (Or.inl ⟨rfl, hnm⟩) f1 (Or.inl rfl) bl13 (t := (.array .byte)) (by decide +kernel) rfl (g := (mkF m 54 #[.val (.ref a), .val (.ref b), .val (.int (Int32.ofNat o)), .val (.int (Int32.ofNat len)), .val .null, .val (.ref s.heap.size)] [.ref s.heap.size, .ref a])) rfl (rest := []) rfl (hb hbytes d54)
  have c16 : Steps p.tables e below (s₁.setTop (entryFrame m #[.ref a, .ref b, .int (Int32.ofNat o), .int (Int32.ofNat len), .null] 6)) (T15.setTop (mkF m 57 #[.val (.ref a), .val (.ref b), .val (.int (Int32.ofNat o)), .val (.int (Int32.ofNat len)), .val .null, .val (.ref s.heap.size)] [])) := c14.trans (st15 _ (Steps.refl _))
  have ap := apart (Or.inr ⟨_, (wk W (.laysFinal "java/lang/String" "java/lang/String" "value" "[B"))⟩) (Or.inr ⟨_, (wk W (.laysFinal "java/lang/String" "java/lang/String" "coder" "B"))⟩) f1 f2 (t₁ := .array .byte) (t₂ := .byte) (by decide +kernel) (by decide +kernel) (by decide)
  have al := X8.warmed.alike.symm.trans X15.warmed.alike
  have n7 : T11.heap[s.heap.size]? = some N := by rw [q11]; exact n1.1
  exact ⟨T15, none, _, _, _, X15, by simp, rfl, by omega, (fun _ => rfl), ⟨rfl, _, N, bl15, ((Same.refl D _).set _ (by simp)).set _ (by simp), sl15, (Cell.slots_setSlot_ne _ ap).trans sl13, n1.keep al (p15.other hne (p13.other hne n7)), n2, by rw [al.findClass]; exact n3, n4, n5, fun y c h1 h2 => p15.other h1 (p13.other h1 (by rw [q11]; exact n6 y c h2)), by rw [p15.2.2, p13.2.2, q11]; exact z8⟩, fun fs hl => c16.trans (X15.returnOut hexec hret (hb hbytes d57) hl)⟩
end New4
namespace New1
def yN : MethodName := ⟨"java/lang/String", "<init>", "([C)V"⟩
abbrev yB : ByteArray := jdk_42_method_3_code
theorem d0 : decode yB 0 = .ok (.aload_n 0, 1) := by decide +kernel
theorem d1 : decode yB 1 = .ok (.aload_n 1, 1) := by decide +kernel
theorem d2 : decode yB 2 = .ok (.iconst 0, 1) := by decide +kernel
theorem d3 : decode yB 3 = .ok (.aload_n 1, 1) := by decide +kernel
theorem d4 : decode yB 4 = .ok (.arraylength, 1) := by decide +kernel
theorem d5 : decode yB 5 = .ok (.aconst_null, 1) := by decide +kernel
theorem d6 : decode yB 6 = .ok (.invokespecial 27, 3) := by decide +kernel
theorem d9 : decode yB 9 = .ok (.return_, 1) := by decide +kernel
def site : List Cond := [New4.tab] ++ initW "java/lang/String" 27 New4.yN
def tab : Cond := tabOf yN yB 2 none site
def P (a : Addr) (D : Cell) (fV fC : Field) (b : Addr) (A : Cell) (z : Int32) (args : Array Value) (s : State) : Prop := args = #[.ref a, .ref b] ∧ Blank "java/lang/String" a D s ∧ Found "java/lang/String" "value" "[B" fV s ∧ Found "java/lang/String" "coder" "B" fC s ∧ Ch b A s ∧ StaticIs s "java/lang/String" "COMPACT_STRINGS" "Z" (.int z) ∧ ¬ z = 0 ∧ 0 < A.slots.size ∧ A.slots.size ≤ 536870912 ∧ ∀ i, i < A.slots.size → ¬ 255 < cv A i
def E (a : Addr) (D : Cell) (fV fC : Field) (A : Cell) (r : Option Value) (s u : State) : Prop := Got a D fV fC A 0 A.slots.size r s u
/-- new String(chars), not empty, no char above 255: a Latin-1 String of their low bytes -/
theorem law (l : Launch) (a : Addr) (D : Cell) (fV fC : Field) (b : Addr) (A : Cell) (z : Int32) : Law l yN 2 1 3 52 yB 2 none site (P a D fV fC b A z) (E a D fV fC A) [⟨a, fC.slot⟩, ⟨a, fV.slot⟩] 1 A.slots.size := by
  refine Law.of_walk (plainFor_of_name (by decide +kernel)) (by decide +kernel) (by decide +kernel) (by decide) (fun _ _ h => by rw [h.1]; rfl) (fun _ U U' hal hh h => ⟨h.1, h.2.1.mv hal hh, h.2.2.1.al hal, h.2.2.2.1.al hal, h.2.2.2.2.1.mv hal hh, h.2.2.2.2.2.1.there hal hh, h.2.2.2.2.2.2⟩) (fun r U U' V V' h1 hal h2 h => Got.mv r U U' V V' h1 hal h2 h) ?_
  intro p e s m args below meth c s₁ X0 hexec hbytes hml hret hlk hnm hown hh0 W hP
  obtain ⟨rfl, hB, f1, f2, hA, s1, hz, l0, l2, hp⟩ := hP
  have c1 : Steps p.tables e below (s₁.setTop (entryFrame m #[.ref a, .ref b] 2)) (s₁.setTop (mkF m 0 #[.val (.ref a), .val (.ref b)] [])) := entry rfl
  have c2 : Steps p.tables e below (s₁.setTop (entryFrame m #[.ref a, .ref b] 2)) (s₁.setTop (mkF m 6 #[.val (.ref a), .val (.ref b)] [.null, .int (Int32.ofNat A.slots.size), .int 0, .ref b, .ref a])) := c1.trans (by
    refine XS.aloadN X0.here hexec rfl (hb hbytes d0) rfl rfl ?_
    refine XS.aloadN X0.here hexec rfl (hb hbytes d1) rfl rfl ?_
    refine iconstV X0.here hexec rfl 0 (hb hbytes d2) (by decide) ?_
    refine XS.aloadN X0.here hexec rfl (hb hbytes d3) rfl rfl ?_
    refine X0.alen hexec (hA.1.mv X0.warmed.alike hh0) rfl rfl (hb hbytes d4) ?_
    refine XS.aconstNull X0.here hexec rfl (hb hbytes d5) ?_
    exact Steps.refl _)
  obtain ⟨v3, T3, X3, E3, g3⟩ := X0.callN hexec (New4.law l a D fV fC b A z 0 A.slots.size) rfl hown (wks W (initW "java/lang/String" 27 New4.yN)) (W New4.tab (by simp only [site, List.mem_cons, List.mem_append, true_or, or_true])) (W := 0) (Nat.le_of_ble_eq_true rfl) (Nat.le_of_ble_eq_true rfl) (Nat.le_refl _) (by show 0 + A.slots.size ≤ A.slots.size; omega) (g := (mkF m 6 #[.val (.ref a), .val (.ref b)] [.null, .int (Int32.ofNat A.slots.size), .int (Int32.ofNat 0), .ref b, .ref a])) rfl (by rw [hml]; rfl) c2 (argsL := [.ref b, .int (Int32.ofNat 0), .int (Int32.ofNat A.slots.size), .null]) (rest := []) rfl rfl (by show 2 * 0 + 0 ≤ _; decide) (hb hbytes d6) (⟨rfl, hB.mv X0.warmed.alike hh0, f1.al X0.warmed.alike, f2.al X0.warmed.alike, hA.mv X0.warmed.alike hh0, s1.there X0.warmed.alike hh0, hz, l0, by omega, l2, fun i hi => by rw [Nat.zero_add]; exact hp i hi⟩)
  have e0 := Got.mv _ s₁ s _ _ hh0.symm (Vm.Alike.refl _) rfl E3
  obtain rfl := e0.1
  have c4 : Steps p.tables e below (s₁.setTop (entryFrame m #[.ref a, .ref b] 2)) (T3.setTop (mkF m 9 #[.val (.ref a), .val (.ref b)] [])) := g3
  exact ⟨T3, none, _, _, _, X3, by simp, rfl, by omega, (fun _ => rfl), e0, fun fs hl => c4.trans (X3.returnOut hexec hret (hb hbytes d9) hl)⟩
theorem pays {l : Launch} {R : Room} {p : Program} {e : Env} {below : List Frame} {s : State} {sargs : Array Value} {len W : Nat} (a : Addr) (D : Cell) (fV fC : Field) (b : Addr) (A : Cell) (z : Int32) (htab : tab.before sargs s = true) (hfr : 4 ≤ R.frames) (hlo : W + 65 ≤ R.locals) :
    Back l R p e below s sargs yN len W (fun A₁ a₁ => A₁.cells + 1 ≤ R.cells ∧ A₁.slots + A.slots.size ≤ R.slots ∧ P a D fV fC b A z a₁ A₁.U) (fun A₁ _ v₁ B₁ => E a D fV fC A v₁ A₁.U B₁.U ∧ B₁.locs = A₁.locs ++ [⟨a, fC.slot⟩, ⟨a, fV.slot⟩] ∧ B₁.cells = A₁.cells + 1 ∧ B₁.slots = A₁.slots + A.slots.size) :=
  (law l a D fV fC b A z).pays htab hfr (by omega)
end New1
/-- the byte, read back as charAt reads it, is the char -/
theorem lo8_mask {x : Int32} (h0 : ¬ x < 0) (h1 : ¬ 255 < x) : lo8 x &&& 255 = x := by
  have t : ∀ k : Fin 256, lo8 (Int32.ofNat k.val) &&& 255 = Int32.ofNat k.val := by decide +kernel
  rw [Int32.lt_iff_toInt_lt] at h0 h1
  have e0 : (0 : Int32).toInt = 0 := rfl
  have e1 : (255 : Int32).toInt = 255 := rfl
  obtain ⟨k, hk⟩ : ∃ k : Nat, x.toInt = k := ⟨x.toInt.toNat, by omega⟩
  have hx : x = Int32.ofNat k := Int32.toInt_inj.mp (by rw [hk, Int32.toInt_ofNat_small (by omega)])
  rw [hx]
  exact t ⟨k, by omega⟩
end StrChars
namespace StrChars.Road
open Jvm Sem ClassFile Op Lib Jvm.Stand Jvm.Free Jvm.Free.XT
open Jvm.Lib.Cold (StaticIs)
abbrev ST : String := "java/lang/String"
/-- every table word that New1's law asks, flat -/
abbrev words : List Jvm.Cond := [.code New1.yN New1.yB 2 none, .initialized ST, .methodLink ST 27 New4.yN, .instanceMethod New4.yN,
  .code New4.yN New4.yB 6 none, .fieldLink ST 38 ST "COMPACT_STRINGS" "Z", .laysFinal ST ST "value" "[B", .fieldLink ST 9 ST "value" "[B", .laysFinal ST ST "coder" "B", .fieldLink ST 15 ST "coder" "B",
  .methodLink ST 1 Lib.objectInit, .instanceMethod Lib.objectInit, .code Lib.objectInit ⟨#[0xb1]⟩ 1 none, .methodLink ST 177 Cmp3.yN, .static Cmp3.yN, .methodLink ST 47 CodL.yN, .static CodL.yN,
  .code Cmp3.yN Cmp3.yB 6 (some (.array .byte)), .initialized U16, .arrayClass .byte, .methodLink U16 115 Cmp5.yN, .static Cmp5.yN, .code Cmp5.yN Cmp5.yB 7 (some .int), .code CodL.yN CodL.yB 2 (some .byte)]
theorem tab_of {a : Array Value} {s : State} (h : ∀ w ∈ words, w.before a s = true) : New1.tab.before a s = true := by
  have h5 : Cmp5.tab.before a s = true := unparts (wk h (.code Cmp5.yN Cmp5.yB 7 (some .int))) (wks h (.initialized Cmp5.yN.cls :: Cmp5.site))
  have hc : CodL.tab.before a s = true := unparts (wk h (.code CodL.yN CodL.yB 2 (some .byte))) (wks h (.initialized CodL.yN.cls :: CodL.site))
  have q5 : ∀ w ∈ Cmp5.tab :: words, w.before a s = true := fun w hw => (List.mem_cons.mp hw).elim (fun e => e ▸ h5) (h w)
  have h3 : Cmp3.tab.before a s = true := unparts (wk q5 (.code Cmp3.yN Cmp3.yB 6 (some (.array .byte)))) (wks q5 (.initialized Cmp3.yN.cls :: Cmp3.site))
  have q3 : ∀ w ∈ Cmp3.tab :: CodL.tab :: words, w.before a s = true := fun w hw => (List.mem_cons.mp hw).elim (fun e => e ▸ h3) fun hw => (List.mem_cons.mp hw).elim (fun e => e ▸ hc) (h w)
  have h4 : New4.tab.before a s = true := unparts (wk q3 (.code New4.yN New4.yB 6 none)) (wks q3 (.initialized New4.yN.cls :: New4.site))
  have q4 : ∀ w ∈ New4.tab :: words, w.before a s = true := fun w hw => (List.mem_cons.mp hw).elim (fun e => e ▸ h4) (h w)
  exact unparts (wk q4 (.code New1.yN New1.yB 2 none)) (wks q4 (.initialized New1.yN.cls :: New1.site))
/-- the words ride from the start Z to the walk's own state -/
theorem moved {Z s : State} {a0 args : Array Value} (hZ : Z.Warmed39 s.vm) (hw : ∀ d ∈ words, d.before a0 Z = true) : ∀ d ∈ words, d.before args s = true := fun d hd => by
  have q := hw d hd
  have t : ∀ d ∈ words, d = .arrayClass .byte ∨ (d.onTables && d.keepsFace) = true := by decide +kernel
  rcases t d hd with rfl | t
  · exact RoadKit.mvA hZ q
  · exact RoadKit.mv hZ q t
/-- WHAT COMES BACK, over the tables of the start Z: h the heap at the call, h' behind it -/
def Q (Z : State) (x : Addr) (A : Cell) (h : Heap) (v : Option Value) (h' : Heap) (L : List Loc) : Prop := v = none ∧ (∀ y ∈ L, y.base = x) ∧ RoadKit.Keep h h' [x] ∧ h'.size = h.size + 1 ∧ RoadKit.Exa Z h' x ST ∧ RoadKit.Fld Z h' x ST "value" "[B" (.ref h.size) ∧ RoadKit.Fld Z h' x ST "coder" "B" (.int 0) ∧
  (∃ V : Cell, RoadKit.Arr Z h' h.size V .byte ∧ V.vm = .none ∧ Z.vm.findClass "[B" = some V.cls ∧ V.slots.size = A.slots.size ∧ ∀ j, j < A.slots.size → V.slots[j]? = some (.int (lo8 (cv A j)))) ∧
  ∀ (O n d : String) (w : Value), RoadKit.Fld Z h x O n d w → RoadKit.slotOf Z O n d ≠ RoadKit.slotOf Z ST "value" "[B" → RoadKit.slotOf Z O n d ≠ RoadKit.slotOf Z ST "coder" "B" → RoadKit.Fld Z h' x O n d w
/-- **new String(chars) AT A CALL, IN THE ROAD'S FORM**: for specialBack behind newO: x the fresh String, b the char[] with the cell A -/
theorem back {p : Program} {l : Launch} {e : Env} {R : Room} {s : State} {args : Array Value} {below : List Frame} {len W : Nat} {Z : State} {a0 : Array Value} {h : Heap} (hZ : Z.Warmed39 s.vm) (hw : ∀ d ∈ words, d.before a0 Z = true) {kI : Nat} (wi : (Jvm.Cond.instantiable ST kI).before a0 Z = true)
    {x b : Addr} {A : Cell} {z : Int32} {v0 c0 : Value} (E : RoadKit.Exa Z h x ST) (V : RoadKit.Fld Z h x ST "value" "[B" v0) (C : RoadKit.Fld Z h x ST "coder" "B" c0) (K : RoadKit.Arr Z h b A .char) (hty : Typed .char A) (S : RoadKit.Sta Z h ST "COMPACT_STRINGS" "Z" (.int z)) (hz : ¬ z = 0)
    (l0 : 0 < A.slots.size) (l2 : A.slots.size ≤ 536870912) (hp : ∀ i, i < A.slots.size → ¬ 255 < cv A i) (hfr : 4 ≤ R.frames) (hlo : W + 65 ≤ R.locals) :
    Back l R p e below s args New1.yN len W (fun P a => a = #[.ref x, .ref b] ∧ P.U.heap = h ∧ P.cells + 1 ≤ R.cells ∧ P.slots + A.slots.size ≤ R.slots)
      (fun P _ v B => ∃ L, Q Z x A h v B.U.heap L ∧ B.locs = P.locs ++ L ∧ B.cells = P.cells + 1 ∧ B.slots = P.slots + A.slots.size) := by
  intro m meth c P g ig mk a X hg hsize hdg hW hn hp'
  obtain ⟨rfl, rfl, r1, r2⟩ := hp'
  have al : Z.vm.Alike P.U.vm := hZ.alike.trans X.warmed.alike
  obtain ⟨D, cfV, kV, iV, fV, hD, gV, stV, knV, obV, asV, slV⟩ := id V
  obtain ⟨D', cfC, kC, iC, fC, hD', gC, stC, -, -, asC, slC⟩ := id C
  cases hD.symm.trans hD'
  obtain ⟨D2, kD, e1, e2, e3, e4, e5⟩ := id E
  cases hD.symm.trans e1
  obtain ⟨c2, k2, i1, i2, i3, -⟩ := Cond.instantiable_spec wi
  cases e2.symm.trans i1
  cases e3.symm.trans i2
  obtain ⟨kU, u1, u2⟩ := al.2.2 _ _ e3
  have hB : Blank ST x D P.U := ⟨hD, ⟨knV, fun q hq => by rw [hq] at obV; cases obV⟩, by rw [al.findClass]; exact e2, kU, u1, by rw [u2]; exact i3, by rw [u2]; exact e5 i3⟩
  have F1 : Found ST "value" "[B" fV P.U := ⟨SBG.found_only al ⟨cfV, kV, iV, gV⟩, stV⟩
  have F2 : Found ST "coder" "B" fC P.U := ⟨SBG.found_only al ⟨cfC, kC, iC, gC⟩, stC⟩
  have hA : Ch b A P.U := ⟨⟨K.1, State.isArrayOf_alike al K.2.1, K.2.2, by omega⟩, hty⟩
  have hS : StaticIs P.U ST "COMPACT_STRINGS" "Z" (.int z) := by
    obtain ⟨cfS, iS, kS, fS, st, cS, t1, t2, t3, t4, t5, t6, t7⟩ := S
    exact StaticIs.there (s := { Z with heap := P.U.heap }) ⟨cfS, iS, kS, fS, st, cS, t1, t2, t3, t4, t5, (fun q => by rw [q] at t6; cases t6), t7⟩ al rfl
  obtain ⟨v, B, X', ⟨⟨hv, E', V', q1, q2, q3, q4, q5, q6, q7, q8, q9, q10, q11⟩, hl, hc, hs⟩, st⟩ := New1.pays x D fV fC b A z (tab_of (moved hZ hw)) hfr hlo m meth c P g ig mk _ X hg hsize hdg hW hn ⟨r1, r2, rfl, hB, F1, F2, hA, hS, hz, l0, l2, hp⟩
  have al' : Z.vm.Alike B.U.vm := hZ.alike.trans X'.warmed.alike
  have hsz : E'.slots.size = D.slots.size := by
    obtain ⟨-, -, -, kB, w1, w2, w3⟩ := q1
    obtain ⟨kB', y1, y2⟩ := al'.2.2 _ _ e3
    rw [q2.2.1] at w1
    cases w1.symm.trans y1
    rw [w3, e5 i3, y2]
  refine ⟨v, B, X', ⟨_, ⟨hv, ?_, ⟨by omega, fun y cy hy hn' => q10 y cy (by simpa using hn') hy, fun y cy hy => ?_⟩, q11, ⟨E', _, q1.1, by rw [q2.2.1]; exact e2, by rw [q2.2.1]; exact e3, by rw [q2.1]; exact obV, fun _ => by rw [hsz]; exact e5 i3⟩,
    ⟨E', cfV, kV, iV, fV, q1.1, gV, stV, by rw [q2.1]; exact knV, by rw [q2.1]; exact obV, by rw [q2.2.1]; exact asV, q3⟩, ⟨E', cfC, kC, iC, fC, q1.1, gC, stC, by rw [q2.1]; exact knV, by rw [q2.1]; exact obV, by rw [q2.2.1]; exact asC, q4⟩,
    ⟨V', ⟨q5.1, State.isArrayOf_alike al'.symm q5.2.1, q5.2.2.1⟩, q6, by rw [← al'.findClass]; exact q7, q8, fun j hj => by have := q9 j hj; rwa [Nat.zero_add] at this⟩, fun O n d w F n1 n2 => ?_⟩, hl, hc, hs⟩, st⟩
  · intro y hy
    simp only [List.mem_cons, List.not_mem_nil, or_false] at hy
    rcases hy with rfl | rfl <;> rfl
  · by_cases q : y = x
    · subst q
      cases hD.symm.trans hy
      exact ⟨E', q1.1, q2.2.1, q2.1, hsz⟩
    · exact ⟨cy, q10 y cy q hy, rfl, rfl, rfl⟩
  · obtain ⟨D3, cf, k, i, f, g1, g2, g3, g4, g5, g6, g7⟩ := F
    cases hD.symm.trans g1
    simp only [RoadKit.slotOf, g2, gV, gC, Option.map_some, Option.getD_some] at n1 n2
    exact ⟨E', cf, k, i, f, q1.1, g2, g3, by rw [q2.1]; exact g4, by rw [q2.1]; exact g5, by rw [q2.2.1]; exact g6, by rw [q2.2.2 f.slot (by simp [n1, n2])]; exact g7⟩
end StrChars.Road
namespace StrChars.Road
open Jvm Sem ClassFile Op Lib Jvm.Stand Jvm.Free Jvm.Free.XT
/-- WHAT COMES BACK, the byte[] as a list of values -/
def QA (Z : State) (x : Addr) (zn : Int32) (cs : List Int32) (h : Heap) (v : Option Value) (h' : Heap) (L : List Loc) : Prop := v = none ∧ (∀ y ∈ L, y.base = x) ∧ RoadKit.Keep h h' [x] ∧ h'.size = h.size + 1 ∧ RoadKit.Exa Z h' x ST ∧ RoadKit.Fld Z h' x ST "value" "[B" (.ref h.size) ∧ RoadKit.Fld Z h' x ST "coder" "B" (.int 0) ∧
  (∃ kb, Z.vm.findClass "[B" = some kb ∧ RoadKit.Arv Z h' h.size kb .byte zn (cs.map fun c => .int (lo8 c)) (.int 0)) ∧
  ∀ (O n d : String) (w : Value), RoadKit.Fld Z h x O n d w → RoadKit.slotOf Z O n d ≠ RoadKit.slotOf Z ST "value" "[B" → RoadKit.slotOf Z O n d ≠ RoadKit.slotOf Z ST "coder" "B" → RoadKit.Fld Z h' x O n d w
/-- **new String(chars) AT A CALL, THE ARRAYS AS LISTS**: the char[] at b holds cs, not empty, no char above 255 -/
theorem backArv {p : Program} {l : Launch} {e : Env} {R : Room} {s : State} {args : Array Value} {below : List Frame} {len W : Nat} {Z : State} {a0 : Array Value} {h : Heap} (hZ : Z.Warmed39 s.vm) (hw : ∀ d ∈ words, d.before a0 Z = true) {kI : Nat} (wi : (Jvm.Cond.instantiable ST kI).before a0 Z = true)
    {x b : Addr} {k : ClassId} {zn z : Int32} {cs : List Int32} {dv v0 c0 : Value} (E : RoadKit.Exa Z h x ST) (V : RoadKit.Fld Z h x ST "value" "[B" v0) (C : RoadKit.Fld Z h x ST "coder" "B" c0) (K : RoadKit.Arv Z h b k .char zn (cs.map Value.int) dv) (S : RoadKit.Sta Z h ST "COMPACT_STRINGS" "Z" (.int z)) (hz : ¬ z = 0)
    (hlen : zn.toNatClampNeg = cs.length) (h0 : 0 < cs.length) (hbig : cs.length ≤ 536870912) (hall : ∀ c ∈ cs, ¬ 255 < c) (hfr : 4 ≤ R.frames) (hlo : W + 65 ≤ R.locals) :
    Back l R p e below s args New1.yN len W (fun P a => a = #[.ref x, .ref b] ∧ P.U.heap = h ∧ P.cells + 1 ≤ R.cells ∧ P.slots + cs.length ≤ R.slots)
      (fun P _ v B => ∃ L, QA Z x zn cs h v B.U.heap L ∧ B.locs = P.locs ++ L ∧ B.cells = P.cells + 1 ∧ B.slots = P.slots + cs.length) := by
  obtain ⟨A, K1, K2, K3, K4, K5, K6⟩ := K
  have e : A.slots.size = cs.length := K3.trans hlen
  have hat : ∀ (i : Nat) (hi : i < cs.length), A.slots[i]? = some (.int cs[i]) := fun i hi => by rw [K5 i (by omega)]; simp [List.getD_eq_getElem?_getD, hi]
  have hcv : ∀ (i : Nat) (hi : i < cs.length), cv A i = cs[i] := fun i hi => by unfold cv; rw [hat i hi]
  have hty : Typed .char A := fun i v hv => by
    have hi : i < A.slots.size := (Array.getElem?_eq_some_iff.mp hv).1
    have q := K5 i hi
    rw [hv] at q
    rw [Option.some.inj q]
    exact K6 i hi
  refine Back.mono (back hZ hw wi E V C K1 hty S hz (by omega) (by omega) (fun i hi => by rw [hcv i (by omega)]; exact hall _ (List.getElem_mem _)) hfr hlo) (fun P a hp => ⟨hp.1, hp.2.1, hp.2.2.1, by rw [e]; exact hp.2.2.2⟩) (fun P a v B hp hq => ?_)
  obtain ⟨L, ⟨q1, q2, q3, q4, q5, q6, q7, ⟨V', v1, v2, v3, v4, v5⟩, q9⟩, hl, hc, hs⟩ := hq
  refine ⟨L, ⟨q1, q2, q3, q4, q5, q6, q7, ⟨V'.cls, v3, V', v1, rfl, by rw [v4, e, hlen], K4, fun i hi => ?_, fun i hi => ?_⟩, q9⟩, hl, hc, by rw [hs, e]⟩
  · have hi' : i < cs.length := by omega
    rw [v5 i (by omega), hcv i hi']; simp [List.getD_eq_getElem?_getD, hi']
  · have hi' : i < cs.length := by omega
    simp only [List.getD_eq_getElem?_getD, List.getElem?_map, List.getElem?_eq_getElem hi', Option.map_some, Option.getD_some]
    exact fits_lo8 _
end StrChars.Road
namespace StrChars.Road
open Jvm Sem ClassFile Op Lib Jvm.Stand Jvm.Free Jvm.Free.XT
/-- WHAT COMES BACK, in the writer's own shape -/
def QV (Z : State) (x : Addr) (N : Int32) (bs : List Int32) (h : Heap) (n0 : Nat) (v : Option Value) (h' : Heap) (L : List Loc) : Prop := v = none ∧ RoadKit.Fr n0 L ∧ RoadKit.Keep h h' [x] ∧ RoadKit.Exa Z h' x ST ∧ RoadKit.Fld Z h' x ST "coder" "B" (.int 0) ∧
  ∃ (t : Addr) (kb : ClassId), n0 ≤ t ∧ h.size ≤ t ∧ ¬ t = x ∧ RoadKit.Fld Z h' x ST "value" "[B" (.ref t) ∧ RoadKit.Arv Z h' t kb .byte N (bs.map Value.int) (.int 0)
/-- **new String(chars) AT A CALL, FOR THE WRITER**: a char[] of n known ints, each 0 to 255 -/
theorem backV {p : Program} {l : Launch} {e : Env} {R : Room} {s : State} {args : Array Value} {below : List Frame} {len W : Nat} {Z : State} {a0 : Array Value} {h : Heap} (hZ : Z.Warmed39 s.vm) (hw : ∀ d ∈ words, d.before a0 Z = true) {kI : Nat} (wi : (Jvm.Cond.instantiable ST kI).before a0 Z = true)
    {x b : Addr} {kC : ClassId} {cs bs : List Int32} {d v0 c0 : Value} {z N : Int32} {n n0 : Nat} (hx0 : n0 ≤ x) (hh0 : n0 ≤ h.size) (E : RoadKit.Exa Z h x ST) (V : RoadKit.Fld Z h x ST "value" "[B" v0) (C : RoadKit.Fld Z h x ST "coder" "B" c0) (K : RoadKit.Arv Z h b kC .char N (cs.map Value.int) d) (S : RoadKit.Sta Z h ST "COMPACT_STRINGS" "Z" (.int z)) (hz : ¬ z = 0)
    (hn : cs.length = n) (hN : N = Int32.ofNat n) (l0 : 0 < n) (l2 : n ≤ 4000) (hp : ∀ c ∈ cs, ¬ c < 0 ∧ ¬ (255 : Int32) < c) (hb : bs = cs.map (fun c => c.toInt8.toInt32)) (hfr : 4 ≤ R.frames) (hlo : W + 65 ≤ R.locals) :
    Back l R p e below s args (⟨"java/lang/String", "<init>", "([C)V"⟩ : MethodName) len W (fun P a => a = #[.ref x, .ref b] ∧ P.U.heap = h ∧ P.cells + 1 ≤ R.cells ∧ P.slots + n ≤ R.slots)
      (fun P _ v B => ∃ L, QV Z x N bs h n0 v B.U.heap L ∧ B.locs = P.locs ++ L ∧ B.cells = P.cells + 1 ∧ B.slots = P.slots + n) := by
  subst hn hN hb
  refine Back.mono (backArv hZ hw wi E V C K S hz (n32 (by omega)) l0 (by omega) (fun c hc => (hp c hc).2) hfr hlo) (fun P a hp => hp) (fun P a v B hp hq => ?_)
  obtain ⟨L, ⟨q1, q2, q3, q4, q5, q6, q7, ⟨kb, v1, v2⟩, q9⟩, hl, hc, hs⟩ := hq
  exact ⟨L, ⟨q1, fun y hy => by rw [q2 y hy]; exact hx0, q3, q5, q7, h.size, kb, hh0, Nat.le_refl _, Nat.ne_of_gt E.lt, q6, by rw [List.map_map]; exact v2⟩, hl, hc, hs⟩
end StrChars.Road
namespace StrChars
open Jvm Sem ClassFile Op Lib Jvm.Stand Jvm.Free.XT Jvm.Free.ALB Jvm.Free.JM Jvm.Free
open Jvm.Lib.Cold (StaticIs)
def hi8 (x : Int32) : Int32 := lo8 (x >>> ((8 : Int32) &&& 31))
/-- what StringUTF16.getChar makes of two bytes -/
def pairCh (u v : Int32) : Int32 := (((u &&& 255) <<< ((0 : Int32) &&& 31)) ||| ((v &&& 255) <<< ((8 : Int32) &&& 31))).toUInt32.toUInt16.toUInt32.toInt32
theorem shr0 (c : Int32) : c >>> ((0 : Int32) &&& 31) = c := by
  have e : ((0 : Int32) &&& 31) = 0 := by decide
  rw [e]
  apply Int32.toBitVec_inj.mp
  rw [Int32.toBitVec_shiftRight]
  have e1 : ((0 : Int32).toBitVec.smod 32) = 0#32 := by decide
  rw [e1, BitVec.sshiftRight_eq']
  exact BitVec.sshiftRight_zero
theorem lo8_and (x : Int32) : (lo8 x &&& 255).toBitVec.toNat = x.toBitVec.toNat % 256 := by
  have h : (lo8 x).toBitVec = (x.toBitVec.signExtend 8).signExtend 32 := by rw [lo8, Int8.toBitVec_toInt32, Int32.toBitVec_toInt8]
  rw [Int32.toBitVec_and, BitVec.toNat_and, h]
  have e : ((x.toBitVec.signExtend 8).signExtend 32).toNat % 256 = x.toBitVec.toNat % 256 := by
    rw [BitVec.toNat_signExtend]
    have hlt := x.toBitVec.isLt
    simp only [BitVec.toNat_setWidth, BitVec.toNat_signExtend]
    split <;> split <;> omega
  rw [← e]
  exact Nat.and_two_pow_sub_one_eq_mod _ 8
theorem pair_says {c : Int32} (h0 : ¬ c < 0) (h1 : ¬ 65535 < c) : pairCh (lo8 c) (hi8 c) = c := by
  rw [Int32.lt_iff_toInt_lt] at h0 h1
  have e0 : (0 : Int32).toInt = 0 := rfl
  have e1 : (65535 : Int32).toInt = 65535 := rfl
  have hc : c.toInt = c.toBitVec.toNat := by
    have := c.toBitVec.isLt
    have e : c.toInt = c.toBitVec.toInt := rfl
    rw [e] at h0 h1
    rw [e]
    rw [BitVec.toInt_eq_toNat_cond] at h0 h1 ⊢
    split at h0 <;> split <;> omega
  have hn : c.toBitVec.toNat < 65536 := by omega
  have a1 := lo8_and c
  have a2 : (hi8 c &&& 255).toBitVec.toNat = c.toBitVec.toNat / 256 := by
    rw [hi8, lo8_and]
    have e : ((8 : Int32) &&& 31) = 8 := by decide
    rw [e, Int32.toBitVec_shiftRight]
    have e2 : ((8 : Int32).toBitVec.smod 32) = 8#32 := by decide
    rw [e2, BitVec.sshiftRight_eq', BitVec.toNat_sshiftRight_of_msb_false (by rw [BitVec.msb_eq_false_iff_two_mul_lt]; omega)]
    show c.toBitVec.toNat >>> 8 % 256 = _
    rw [Nat.shiftRight_eq_div_pow]
    omega
  unfold pairCh
  apply Int32.toBitVec_inj.mp
  apply BitVec.eq_of_toNat_eq
  have f0 : ((0 : Int32) &&& 31) = 0 := by decide
  have f8 : ((8 : Int32) &&& 31) = 8 := by decide
  rw [f0, f8]
  have g : (((lo8 c &&& 255) <<< (0 : Int32)) ||| ((hi8 c &&& 255) <<< (8 : Int32))).toBitVec.toNat = c.toBitVec.toNat := by
    rw [Int32.toBitVec_or, Int32.toBitVec_shiftLeft, Int32.toBitVec_shiftLeft]
    have s0 : ((0 : Int32).toBitVec.smod 32) = 0#32 := by decide
    have s8 : ((8 : Int32).toBitVec.smod 32) = 8#32 := by decide
    rw [s0, s8, BitVec.toNat_or]
    simp only [BitVec.shiftLeft_eq', BitVec.toNat_shiftLeft, a1, a2]
    show (c.toBitVec.toNat % 256) <<< 0 % 2 ^ 32 ||| (c.toBitVec.toNat / 256) <<< 8 % 2 ^ 32 = _
    rw [Nat.shiftLeft_zero, Nat.mod_eq_of_lt (show c.toBitVec.toNat % 256 < 2 ^ 32 by omega), Nat.mod_eq_of_lt (show (c.toBitVec.toNat / 256) <<< 8 < 2 ^ 32 by rw [Nat.shiftLeft_eq]; omega), Nat.or_comm, ← Nat.shiftLeft_add_eq_or_of_lt (by omega), Nat.shiftLeft_eq]
    omega
  show BitVec.toNat (((((lo8 c &&& 255) <<< (0 : Int32)) ||| ((hi8 c &&& 255) <<< (8 : Int32))).toBitVec.setWidth 16).setWidth 32) = _
  rw [BitVec.toNat_setWidth, BitVec.toNat_setWidth, g]
  omega
end StrChars
namespace StrChars
open Jvm Sem ClassFile Op Lib Jvm.Stand Jvm.Free.XT Jvm.Free.ALB Jvm.Free.JM Jvm.Free
open Jvm.Lib.Cold (StaticIs)
/-- charAt's cast of a byte read back -/
def chr8 (u : Int32) : Int32 := (u &&& 255).toUInt32.toUInt16.toUInt32.toInt32
theorem chr8_lo8 {c : Int32} (h0 : ¬ c < 0) (h1 : ¬ 255 < c) : chr8 (lo8 c) = c := by
  have t : ∀ k : Fin 256, (Int32.ofNat k.val).toUInt32.toUInt16.toUInt32.toInt32 = Int32.ofNat k.val := by decide +kernel
  unfold chr8
  rw [lo8_mask h0 h1]
  rw [Int32.lt_iff_toInt_lt] at h0 h1
  have e0 : (0 : Int32).toInt = 0 := rfl
  have e1 : (255 : Int32).toInt = 255 := rfl
  obtain ⟨k, hk⟩ : ∃ k : Nat, c.toInt = k := ⟨c.toInt.toNat, by omega⟩
  have hx : c = Int32.ofNat k := Int32.toInt_inj.mp (by rw [hk, Int32.toInt_ofNat_small (by omega)])
  rw [hx]
  exact t ⟨k, by omega⟩
theorem narrow_ch {c : Int32} (h0 : ¬ c < 0) (h1 : ¬ 65535 < c) : narrow .char (.int c) = .int c := by
  have q : narrow .char (.int (pairCh (lo8 c) (hi8 c))) = .int (pairCh (lo8 c) (hi8 c)) := narrow_c _
  rwa [pair_says h0 h1] at q
/-- the array's cell V codes the n chars f 0 .. f (n - 1) by the coder cd, as the JDK does: coder 1 just where some char is above 255 -/
def Cod (cd : Int32) (n : Nat) (f : Nat → Int32) (V : Cell) : Prop := (cd = 0 ∧ V.slots.size = n ∧ ∀ j, j < n → V.slots[j]? = some (.int (lo8 (f j))) ∧ ¬ 255 < f j) ∨ (cd = 1 ∧ V.slots.size = 2 * n ∧ (∀ j, j < n → V.slots[2 * j]? = some (.int (lo8 (f j))) ∧ V.slots[2 * j + 1]? = some (.int (hi8 (f j)))) ∧ ∃ j, j < n ∧ 255 < f j)
theorem Cod.cd {cd : Int32} {n : Nat} {f : Nat → Int32} {V : Cell} (h : Cod cd n f V) : cd = 0 ∨ cd = 1 := h.imp (fun q => q.1) fun q => q.1
/-- **x is a String of the n chars f 0 .. f (n - 1)**, Latin-1 or UTF-16; its array at t has the cell V -/
def Txt (x t : Addr) (V : Cell) (cd : Int32) (n : Nat) (f : Nat → Int32) (U : State) : Prop := Exact "java/lang/String" x U ∧ Has x "java/lang/String" "value" "[B" (.ref t) U ∧ Has x "java/lang/String" "coder" "B" (.int cd) U ∧ XT.Arr .byte t V U ∧ Cod cd n f V ∧ ∀ j, j < n → ¬ f j < 0 ∧ ¬ 65535 < f j
theorem Txt.mv {x t : Addr} {V : Cell} {cd : Int32} {n : Nat} {f : Nat → Int32} {U U' : State} (h : Txt x t V cd n f U) (hal : U.vm.Alike U'.vm) (hh : U'.heap = U.heap) : Txt x t V cd n f U' := ⟨h.1.mv hal hh, h.2.1.mv hal hh, h.2.2.1.mv hal hh, h.2.2.2.1.mv hal hh, h.2.2.2.2⟩
namespace IsL
def yN : MethodName := ⟨"java/lang/String", "isLatin1", "()Z"⟩
abbrev yB : ByteArray := jdk_42_method_154_code
theorem d0 : decode yB 0 = .ok (.getstatic 38, 3) := by decide +kernel
theorem d3 : decode yB 3 = .ok (.ifCond (.eq) 14, 3) := by decide +kernel
theorem d6 : decode yB 6 = .ok (.aload_n 0, 1) := by decide +kernel
theorem d7 : decode yB 7 = .ok (.getfield 15, 3) := by decide +kernel
theorem d10 : decode yB 10 = .ok (.ifCond (.ne) 7, 3) := by decide +kernel
theorem d13 : decode yB 13 = .ok (.iconst 1, 1) := by decide +kernel
theorem d14 : decode yB 14 = .ok (.goto 4, 3) := by decide +kernel
theorem d17 : decode yB 17 = .ok (.iconst 0, 1) := by decide +kernel
theorem d18 : decode yB 18 = .ok (.ireturn, 1) := by decide +kernel
def site : List Cond := [.fieldLink "java/lang/String" 38 "java/lang/String" "COMPACT_STRINGS" "Z", .fieldLink "java/lang/String" 15 "java/lang/String" "coder" "B"]
def tab : Cond := tabOf yN yB 1 (some .boolean) site
def P (x : Addr) (cd z : Int32) (args : Array Value) (s : State) : Prop := args = #[.ref x] ∧ Has x "java/lang/String" "coder" "B" (.int cd) s ∧ (cd = 0 ∨ cd = 1) ∧ StaticIs s "java/lang/String" "COMPACT_STRINGS" "Z" (.int z) ∧ ¬ z = 0
def E (cd : Int32) (r : Option Value) (s u : State) : Prop := XT.PureE (some (.int (1 - cd))) r s u
theorem law (l : Launch) (x : Addr) (cd z : Int32) : Law l yN 1 0 0 0 yB 1 (some .boolean) site (P x cd z) (E cd) [] 0 0 := by
  refine Law.of_walk (plainFor_of_name (by decide +kernel)) (by decide +kernel) (by decide +kernel) (by decide) (fun _ _ h => by rw [h.1]; rfl) (fun _ U U' hal hh h => ⟨h.1, h.2.1.mv hal hh, h.2.2.1, h.2.2.2.1.there hal hh, h.2.2.2.2⟩) (fun r U U' V V' h1 hal h2 h => XT.PureE.mv r U U' V V' h1 hal h2 h) ?_
  intro p e s m args below meth c s₁ X0 hexec hbytes hml hret hlk hnm hown hh0 W hP
  obtain ⟨rfl, hx, hc, s1, hz⟩ := hP
  have c1 : Steps p.tables e below (s₁.setTop (entryFrame m #[.ref x] 1)) (s₁.setTop (mkF m 0 #[.val (.ref x)] [])) := entry rfl
  obtain ⟨T2, X2, q2, st2⟩ := X0.sget hexec hown (wk W (.fieldLink "java/lang/String" 38 "java/lang/String" "COMPACT_STRINGS" "Z")) s1 (fun _ _ h => by rw [hh0]; exact h) (g := (mkF m 0 #[.val (.ref x)] [])) rfl (hb hbytes d0)
  have hh2 := q2.trans hh0
  have c3 : Steps p.tables e below (s₁.setTop (entryFrame m #[.ref x] 1)) (T2.setTop (mkF m 7 #[.val (.ref x)] [.ref x])) := (c1.trans (st2 _ (Steps.refl _))).trans (by
    refine XS.ifNo X2.here hexec rfl (hb hbytes d3) rfl (i0_eq_f hz) ?_
    refine XS.aloadN X2.here hexec rfl (hb hbytes d6) rfl rfl ?_
    exact Steps.refl _)
  obtain ⟨T4, X4, q4, st4⟩ := X2.hget hexec hown (wk W (.fieldLink "java/lang/String" 15 "java/lang/String" "coder" "B")) (hx.mv X2.warmed.alike hh2) (g := (mkF m 7 #[.val (.ref x)] [.ref x])) rfl (rest := []) rfl (hb hbytes d7)
  have c5 : Steps p.tables e below (s₁.setTop (entryFrame m #[.ref x] 1)) (T4.setTop (mkF m 10 #[.val (.ref x)] [.int cd])) := c3.trans (st4 _ (Steps.refl _))
  have c6 : Steps p.tables e below (s₁.setTop (entryFrame m #[.ref x] 1)) (T4.setTop (mkF m 18 #[.val (.ref x)] [.int (1 - cd)])) := by
    rcases hc with rfl | rfl
    · exact c5.trans (by
        refine XS.ifNo X4.here hexec rfl (hb hbytes d10) rfl (i0_ne_f rfl) ?_
        refine iconstV X4.here hexec rfl 1 (hb hbytes d13) (by decide) ?_
        refine XS.goto X4.here hexec rfl (pc0 := 14) rfl (hb hbytes d14) (by decide) rfl ?_
        exact Steps.refl _)
    · exact c5.trans (by
        refine XS.ifYes X4.here hexec rfl (pc0 := 10) rfl (hb hbytes d10) rfl (i0_ne_t (by decide)) (by decide) rfl ?_
        refine iconstV X4.here hexec rfl 0 (hb hbytes d17) (by decide) ?_
        exact Steps.refl _)
  exact ⟨T4, some (.int (1 - cd)), _, _, _, X4, rfl, rfl, rfl, (fun h => by cases h), ⟨rfl, q4.trans hh2⟩, fun fs hl => c6.trans (X4.ireturnOut hexec hret (by rcases hc with rfl | rfl <;> rfl) (Or.inr (Or.inl rfl)) (hb hbytes d18) hl)⟩
end IsL
namespace LChA
def yN : MethodName := ⟨"java/lang/StringLatin1", "charAt", "([BI)C"⟩
abbrev yB : ByteArray := jdk_43_method_2_code
theorem d0 : decode yB 0 = .ok (.iload_n 1, 1) := by decide +kernel
theorem d1 : decode yB 1 = .ok (.aload_n 0, 1) := by decide +kernel
theorem d2 : decode yB 2 = .ok (.arraylength, 1) := by decide +kernel
theorem d3 : decode yB 3 = .ok (.invokestatic 9, 3) := by decide +kernel
theorem d6 : decode yB 6 = .ok (.aload_n 0, 1) := by decide +kernel
theorem d7 : decode yB 7 = .ok (.iload_n 1, 1) := by decide +kernel
theorem d8 : decode yB 8 = .ok (.baload, 1) := by decide +kernel
theorem d9 : decode yB 9 = .ok (.sipush 255, 3) := by decide +kernel
theorem d12 : decode yB 12 = .ok (.iand, 1) := by decide +kernel
theorem d13 : decode yB 13 = .ok (.i2c, 1) := by decide +kernel
theorem d14 : decode yB 14 = .ok (.ireturn, 1) := by decide +kernel
def site : List Cond := [JO.Str_checkIndex.tab] ++ staticW "java/lang/StringLatin1" 9 JO.Str_checkIndex.yN
def tab : Cond := tabOf yN yB 2 (some .char) site
def P (t : Addr) (V : Cell) (i : Nat) (u : Int32) (fm : Value) (args : Array Value) (s : State) : Prop := args = #[.ref t, .int (Int32.ofNat i)] ∧ XT.Arr .byte t V s ∧ V.slots[i]? = some (.int u) ∧ (StaticIs s "jdk/internal/util/Preconditions" "SIOOBE_FORMATTER" "Ljava/util/function/BiFunction;" fm ∧ fm.isRef = true)
def E (u : Int32) (r : Option Value) (s w : State) : Prop := XT.PureE (some (.int (chr8 u))) r s w
theorem law (l : Launch) (t : Addr) (V : Cell) (i : Nat) (u : Int32) (fm : Value) : Law l yN 2 2 2 27 yB 2 (some .char) site (P t V i u fm) (E u) [] 0 0 := by
  refine Law.of_walk (plainFor_of_name (by decide +kernel)) (by decide +kernel) (by decide +kernel) (by decide) (fun _ _ h => by rw [h.1]; rfl) (fun _ U U' hal hh h => ⟨h.1, h.2.1.mv hal hh, h.2.2.1, h.2.2.2.1.there hal hh, h.2.2.2.2⟩) (fun r U U' V V' h1 hal h2 h => XT.PureE.mv r U U' V V' h1 hal h2 h) ?_
  intro p e s m args below meth c s₁ X0 hexec hbytes hml hret hlk hnm hown hh0 W hP
  obtain ⟨rfl, hV, hu, s1, rf⟩ := hP
  have v31 := hV.2.2.2
  have hi : i < V.slots.size := (Array.getElem?_eq_some_iff.mp hu).1
  have c1 : Steps p.tables e below (s₁.setTop (entryFrame m #[.ref t, .int (Int32.ofNat i)] 2)) (s₁.setTop (mkF m 0 #[.val (.ref t), .val (.int (Int32.ofNat i))] [])) := entry rfl
  have c2 : Steps p.tables e below (s₁.setTop (entryFrame m #[.ref t, .int (Int32.ofNat i)] 2)) (s₁.setTop (mkF m 3 #[.val (.ref t), .val (.int (Int32.ofNat i))] [.int (Int32.ofNat V.slots.size), .int (Int32.ofNat i)])) := c1.trans (by
    refine XS.iloadN X0.here hexec rfl (hb hbytes d0) rfl ?_
    refine XS.aloadN X0.here hexec rfl (hb hbytes d1) rfl rfl ?_
    refine X0.alen hexec (hV.mv X0.warmed.alike hh0) rfl rfl (hb hbytes d2) ?_
    exact Steps.refl _)
  obtain ⟨v3, T3, X3, E3, g3⟩ := X0.callS hexec (JO.Str_checkIndex.law l (Int32.ofNat i) (Int32.ofNat V.slots.size) fm) hown (wks W (staticW "java/lang/StringLatin1" 9 JO.Str_checkIndex.yN)) (wk W JO.Str_checkIndex.tab) (W := 0) (Nat.le_of_ble_eq_true rfl) (Nat.le_of_ble_eq_true rfl) (Nat.le_refl _) (Nat.le_refl _) (g := (mkF m 3 #[.val (.ref t), .val (.int (Int32.ofNat i))] [.int (Int32.ofNat V.slots.size), .int (Int32.ofNat i)])) rfl (by rw [hml]; rfl) c2 (argsL := [.int (Int32.ofNat i), .int (Int32.ofNat V.slots.size)]) (rest := []) rfl rfl (by show 2 * 0 + 0 ≤ _; decide) (hb hbytes d3) (⟨rfl, rf, s1.there X0.warmed.alike hh0, Int32.ofNat_not_neg (by omega), lt32 v31 hi⟩)
  obtain ⟨rfl, q3⟩ := E3
  have hh3 := q3.trans hh0
  have c4 : Steps p.tables e below (s₁.setTop (entryFrame m #[.ref t, .int (Int32.ofNat i)] 2)) (T3.setTop (mkF m 14 #[.val (.ref t), .val (.int (Int32.ofNat i))] [.int (chr8 u)])) := Steps.trans g3 (by
    refine XS.aloadN X3.here hexec rfl (hb hbytes d6) rfl rfl ?_
    refine XS.iloadN X3.here hexec rfl (hb hbytes d7) rfl ?_
    refine X3.aget hexec (hV.mv X3.warmed.alike hh3) rfl hu rfl rfl (hb hbytes d8) ?_
    refine sipushV X3.here hexec rfl 255 (hb hbytes d9) (by decide) ?_
    refine XS.iand X3.here hexec rfl (hb hbytes d12) rfl ?_
    refine i2c X3.here hexec rfl (hb hbytes d13) rfl ?_
    exact Steps.refl _)
  exact ⟨T3, some (.int (chr8 u)), _, _, _, X3, rfl, rfl, rfl, (fun h => by cases h), ⟨rfl, hh3⟩, fun fs hl => c4.trans (X3.ireturnOut hexec hret (narrow_c _) (Or.inr (Or.inr (Or.inr (Or.inl rfl)))) (hb hbytes d14) hl)⟩
end LChA
end StrChars
namespace StrChars.Road
open Jvm Sem ClassFile Op Lib Jvm.Stand Jvm.Free Jvm.Free.XT
open Jvm.Lib.Cold (StaticIs)
theorem consq {a : Array Value} {s : State} {c : Jvm.Cond} {L : List Jvm.Cond} (h0 : c.before a s = true) (h : ∀ w ∈ L, w.before a s = true) : ∀ w ∈ c :: L, w.before a s = true := fun w hw => (List.mem_cons.mp hw).elim (fun e => e ▸ h0) (h w)
/-- the bytes of the chars cs, low before high -/
def wideBytes : List Int32 → List Value
  | [] => []
  | c :: cs => .int (lo8 c) :: .int (hi8 c) :: wideBytes cs
theorem wide_lo (d : Value) : ∀ (cs : List Int32) (j : Nat), j < cs.length → (wideBytes cs).getD (2 * j) d = .int (lo8 (cs.getD j 0))
  | [], j, h => absurd h (Nat.not_lt_zero j)
  | c :: cs, 0, _ => rfl
  | c :: cs, j + 1, h => by
    have q := wide_lo d cs j (by simpa using h)
    rw [show 2 * (j + 1) = 2 * j + 1 + 1 from by omega]
    simpa [wideBytes] using q
theorem wide_hi (d : Value) : ∀ (cs : List Int32) (j : Nat), j < cs.length → (wideBytes cs).getD (2 * j + 1) d = .int (hi8 (cs.getD j 0))
  | [], j, h => absurd h (Nat.not_lt_zero j)
  | c :: cs, 0, _ => rfl
  | c :: cs, j + 1, h => by
    have q := wide_hi d cs j (by simpa using h)
    rw [show 2 * (j + 1) + 1 = 2 * j + 1 + 1 + 1 from by omega]
    simpa [wideBytes] using q
theorem low_at (d : Value) (cs : List Int32) (j : Nat) (h : j < cs.length) : (cs.map fun c => Value.int (lo8 c)).getD j d = .int (lo8 (cs.getD j 0)) := by
  simp [List.getD_eq_getElem?_getD, h]
/-- an array of N2 bytes vs codes the chars cs by the coder cd -/
def CodA (cs : List Int32) (cd N2 : Int32) (vs : List Value) : Prop := (cd = 0 ∧ N2 = Int32.ofNat cs.length ∧ vs = (cs.map fun c => Value.int (lo8 c)) ∧ ∀ c ∈ cs, ¬ 255 < c) ∨ (cd = 1 ∧ N2 = Int32.ofNat (2 * cs.length) ∧ vs = wideBytes cs ∧ ∃ c ∈ cs, 255 < c)
theorem CodA.cod {cs : List Int32} {cd N2 : Int32} {vs : List Value} {V : Cell} (h : CodA cs cd N2 vs) (hn : 2 * cs.length < 2 ^ 31) (hs : V.slots.size = N2.toNatClampNeg) (hv : RoadKit.Has V vs (.int 0)) : Cod cd cs.length (fun j => cs.getD j 0) V := by
  rcases h with ⟨rfl, rfl, rfl, h⟩ | ⟨rfl, rfl, rfl, c, hc, hw⟩
  · rw [n32 (by omega)] at hs
    exact Or.inl ⟨rfl, hs, fun j hj => ⟨by rw [hv j (by omega), low_at _ _ _ hj], by
      have e : cs.getD j 0 = cs[j] := by simp [List.getD_eq_getElem?_getD, hj]
      show ¬ 255 < cs.getD j 0
      rw [e]; exact h _ (List.getElem_mem _)⟩⟩
  · rw [n32 (by omega)] at hs
    obtain ⟨j, hj, rfl⟩ := List.getElem_of_mem hc
    exact Or.inr ⟨rfl, hs, fun j hj => ⟨by rw [hv _ (by omega), wide_lo _ _ _ hj], by rw [hv _ (by omega), wide_hi _ _ _ hj]⟩, j, hj, by
      have e : cs.getD j 0 = cs[j] := by simp [List.getD_eq_getElem?_getD, hj]
      show 255 < cs.getD j 0
      rw [e]; exact hw⟩
/-- an object of exactly java/lang/String, its two fields found: as the laws ask it -/
theorem strObj {Z U : State} {a0 : Array Value} {kI : Nat} (wi : (Jvm.Cond.instantiable ST kI).before a0 Z = true) (al : Z.vm.Alike U.vm) {x : Addr} {v0 c0 : Value} (E : RoadKit.Exa Z U.heap x ST) (V : RoadKit.Fld Z U.heap x ST "value" "[B" v0) (C : RoadKit.Fld Z U.heap x ST "coder" "B" c0) :
    ∃ (D : Cell) (fV fC : Field), Blank ST x D U ∧ Found ST "value" "[B" fV U ∧ Found ST "coder" "B" fC U ∧ D.slots[fV.slot]? = some v0 ∧ D.slots[fC.slot]? = some c0 ∧ RoadKit.slotOf Z ST "value" "[B" = fV.slot ∧ RoadKit.slotOf Z ST "coder" "B" = fC.slot := by
  obtain ⟨D, cfV, kV, iV, fV, hD, gV, stV, knV, obV, asV, slV⟩ := V
  obtain ⟨D', cfC, kC, iC, fC, hD', gC, stC, -, -, asC, slC⟩ := C
  cases hD.symm.trans hD'
  obtain ⟨D2, kD, e1, e2, e3, e4, e5⟩ := E
  cases hD.symm.trans e1
  obtain ⟨c2, k2, i1, i2, i3, -⟩ := Cond.instantiable_spec wi
  cases e2.symm.trans i1
  cases e3.symm.trans i2
  obtain ⟨kU, u1, u2⟩ := al.2.2 _ _ e3
  exact ⟨D, fV, fC, ⟨hD, ⟨knV, fun q hq => by rw [hq] at obV; cases obV⟩, by rw [al.findClass]; exact e2, kU, u1, by rw [u2]; exact i3, by rw [u2]; exact e5 i3⟩, ⟨SBG.found_only al ⟨cfV, kV, iV, gV⟩, stV⟩, ⟨SBG.found_only al ⟨cfC, kC, iC, gC⟩, stC⟩, slV, slC, by simp [RoadKit.slotOf, gV], by simp [RoadKit.slotOf, gC]⟩
theorem sta_is {Z U : State} (al : Z.vm.Alike U.vm) {C n d : String} {v : Value} (S : RoadKit.Sta Z U.heap C n d v) : StaticIs U C n d v := by
  obtain ⟨cfS, iS, kS, fS, st, cS, t1, t2, t3, t4, t5, t6, t7⟩ := S
  exact StaticIs.there (s := { Z with heap := U.heap }) ⟨cfS, iS, kS, fS, st, cS, t1, t2, t3, t4, t5, (fun q => by rw [q] at t6; cases t6), t7⟩ al rfl
end StrChars.Road
namespace StrChars.Road
open Jvm Sem ClassFile Op Lib Jvm.Stand Jvm.Free Jvm.Free.XT
open Jvm.Lib.Cold (StaticIs)
/-- the road's facts of a String, as the laws ask it -/
theorem txt_of {Z U : State} {a0 : Array Value} {kI : Nat} (wi : (Jvm.Cond.instantiable ST kI).before a0 Z = true) (al : Z.vm.Alike U.vm) {x t : Addr} {kb : ClassId} {cs : List Int32} {cd N2 : Int32} {vs : List Value} (E : RoadKit.Exa Z U.heap x ST) (V : RoadKit.Fld Z U.heap x ST "value" "[B" (.ref t)) (C : RoadKit.Fld Z U.heap x ST "coder" "B" (.int cd)) (K : RoadKit.Arv Z U.heap t kb .byte N2 vs (.int 0)) (hc : CodA cs cd N2 vs) (hb : ∀ c ∈ cs, ¬ c < 0 ∧ ¬ (65535 : Int32) < c) (l2 : cs.length ≤ 4000) :
    ∃ A, Txt x t A cd cs.length (fun j => cs.getD j 0) U := by
  obtain ⟨A, K1, K2, K3, K4, K5, K6⟩ := K
  have hcod := hc.cod (by omega) K3 K5
  obtain ⟨D, fV, fC, hB, F1, F2, g1, g2, -, -⟩ := strObj wi al E V C
  exact ⟨A, ⟨_, hB.2.2.1, D, hB.1, rfl, by cases q : D.vm <;> first | rfl | exact absurd q (hB.2.1.2 _)⟩, Has.of hB F1 g1, Has.of hB F2 g2, ⟨K1.1, State.isArrayOf_alike al K1.2.1, K1.2.2, by rcases hcod with ⟨-, q, -⟩ | ⟨-, q, -⟩ <;> omega⟩, hcod, fun j hj => by
    have e : cs.getD j 0 = cs[j] := by simp [List.getD_eq_getElem?_getD, hj]
    show ¬ cs.getD j 0 < 0 ∧ ¬ 65535 < cs.getD j 0
    rw [e]; exact hb _ (List.getElem_mem _)⟩
end StrChars.Road
namespace StrChars
open Jvm Sem ClassFile Op Lib Jvm.Stand Jvm.Free.XT Jvm.Free.ALB Jvm.Free.JM Jvm.Free
open Jvm.Lib.Cold (StaticIs)
namespace ChN
def yN : MethodName := ⟨"java/lang/String", "charAt", "(I)C"⟩
abbrev yB : ByteArray := jdk_42_method_56_code
theorem d0 : decode yB 0 = .ok (.aload_n 0, 1) := by decide +kernel
theorem d1 : decode yB 1 = .ok (.invokevirtual 492, 3) := by decide +kernel
theorem d4 : decode yB 4 = .ok (.ifCond (.eq) 12, 3) := by decide +kernel
theorem d7 : decode yB 7 = .ok (.aload_n 0, 1) := by decide +kernel
theorem d8 : decode yB 8 = .ok (.getfield 9, 3) := by decide +kernel
theorem d11 : decode yB 11 = .ok (.iload_n 1, 1) := by decide +kernel
theorem d12 : decode yB 12 = .ok (.invokestatic 495, 3) := by decide +kernel
theorem d15 : decode yB 15 = .ok (.ireturn, 1) := by decide +kernel
def site : List Cond := [.fieldLink "java/lang/String" 9 "java/lang/String" "value" "[B", IsL.tab, LChA.tab] ++ virtW "java/lang/String" 492 "java/lang/String" IsL.yN IsL.yN ++ staticW "java/lang/String" 495 LChA.yN
def tab : Cond := tabOf yN yB 2 (some .char) site
def P (x t : Addr) (V : Cell) (n : Nat) (f : Nat → Int32) (z : Int32) (fm : Value) (i : Nat) (args : Array Value) (s : State) : Prop := args = #[.ref x, .int (Int32.ofNat i)] ∧ Txt x t V 0 n f s ∧ i < n ∧ StaticIs s "java/lang/String" "COMPACT_STRINGS" "Z" (.int z) ∧ ¬ z = 0 ∧ StaticIs s "jdk/internal/util/Preconditions" "SIOOBE_FORMATTER" "Ljava/util/function/BiFunction;" fm ∧ fm.isRef = true
def E (f : Nat → Int32) (i : Nat) (r : Option Value) (s u : State) : Prop := XT.PureE (some (.int (f i))) r s u
/-- charAt(i) of a Latin-1 String of n chars, i < n: f i -/
theorem law (l : Launch) (x t : Addr) (V : Cell) (n : Nat) (f : Nat → Int32) (z : Int32) (fm : Value) (i : Nat) : Law l yN 2 1 3 40 yB 2 (some .char) site (P x t V n f z fm i) (E f i) [] 0 0 := by
  refine Law.of_walk (plainFor_of_name (by decide +kernel)) (by decide +kernel) (by decide +kernel) (by decide) (fun _ _ h => by rw [h.1]; rfl) (fun _ U U' hal hh h => ⟨h.1, h.2.1.mv hal hh, h.2.2.1, h.2.2.2.1.there hal hh, h.2.2.2.2.1, h.2.2.2.2.2.1.there hal hh, h.2.2.2.2.2.2⟩) (fun r U U' V V' h1 hal h2 h => XT.PureE.mv r U U' V V' h1 hal h2 h) ?_
  intro p e s m args below meth c s₁ X0 hexec hbytes hml hret hlk hnm hown hh0 W hP
  obtain ⟨rfl, hx, hi, s1, hz, s3, rf⟩ := hP
  have v31 := hx.2.2.2.1.2.2.2
  have hr := hx.2.2.2.2.2 i hi
  have hx0 := hx.mv X0.warmed.alike hh0
  have c1 : Steps p.tables e below (s₁.setTop (entryFrame m #[.ref x, .int (Int32.ofNat i)] 2)) (s₁.setTop (mkF m 1 #[.val (.ref x), .val (.int (Int32.ofNat i))] [.ref x])) := Steps.trans (entry rfl) (by
    show Steps p.tables e below (s₁.setTop (mkF m 0 #[.val (.ref x), .val (.int (Int32.ofNat i))] [])) _
    refine XS.aloadN X0.here hexec rfl (hb hbytes d0) rfl rfl ?_
    exact Steps.refl _)
  obtain ⟨v2, T2, X2, E2, g2⟩ := X0.callV hexec (IsL.law l x 0 z) hown (wks W (virtW "java/lang/String" 492 "java/lang/String" IsL.yN IsL.yN)) rfl (by decide) (wk W IsL.tab) (W := 0) (Nat.le_of_ble_eq_true rfl) (Nat.le_of_ble_eq_true rfl) (Nat.le_refl _) (Nat.le_refl _) (hx0.1.fc X0.warmed.alike) hx0.1.is (g := (mkF m 1 #[.val (.ref x), .val (.int (Int32.ofNat i))] [.ref x])) rfl (by rw [hml]; rfl) c1 (argsL := []) (rest := []) rfl rfl (by show 2 * 0 + 0 ≤ _; decide) (hb hbytes d1) (⟨rfl, hx0.2.2.1, hx.2.2.2.2.1.cd, s1.there X0.warmed.alike hh0, hz⟩)
  obtain ⟨rfl, q2⟩ := E2
  have hh2 := q2.trans hh0
  have hx2 := hx.mv X2.warmed.alike hh2
  obtain ⟨-, k1, k2⟩ | ⟨k0, -⟩ := hx.2.2.2.2.1
  · have c3 : Steps p.tables e below (s₁.setTop (entryFrame m #[.ref x, .int (Int32.ofNat i)] 2)) (T2.setTop (mkF m 8 #[.val (.ref x), .val (.int (Int32.ofNat i))] [.ref x])) := Steps.trans g2 (by
      refine XS.ifNo X2.here hexec rfl (hb hbytes d4) rfl (i0_eq_f (by decide)) ?_
      refine XS.aloadN X2.here hexec rfl (hb hbytes d7) rfl rfl ?_
      exact Steps.refl _)
    obtain ⟨T4, X4, q4, st4⟩ := X2.hget hexec hown (wk W (.fieldLink "java/lang/String" 9 "java/lang/String" "value" "[B")) hx2.2.1 (g := (mkF m 8 #[.val (.ref x), .val (.int (Int32.ofNat i))] [.ref x])) rfl (rest := []) rfl (hb hbytes d8)
    have hh4 := q4.trans hh2
    have c5 : Steps p.tables e below (s₁.setTop (entryFrame m #[.ref x, .int (Int32.ofNat i)] 2)) (T4.setTop (mkF m 12 #[.val (.ref x), .val (.int (Int32.ofNat i))] [.int (Int32.ofNat i), .ref t])) := (c3.trans (st4 _ (Steps.refl _))).trans (by
      refine XS.iloadN X4.here hexec rfl (hb hbytes d11) rfl ?_
      exact Steps.refl _)
    obtain ⟨v6, T6, X6, E6, g6⟩ := X4.callS hexec (LChA.law l t V i (lo8 (f i)) fm) hown (wks W (staticW "java/lang/String" 495 LChA.yN)) (wk W LChA.tab) (W := 0) (Nat.le_of_ble_eq_true rfl) (Nat.le_of_ble_eq_true rfl) (Nat.le_refl _) (Nat.le_refl _) (g := (mkF m 12 #[.val (.ref x), .val (.int (Int32.ofNat i))] [.int (Int32.ofNat i), .ref t])) rfl (by rw [hml]; rfl) c5 (argsL := [.ref t, .int (Int32.ofNat i)]) (rest := []) rfl rfl (by show 2 * 0 + 0 ≤ _; decide) (hb hbytes d12) (⟨rfl, hx.2.2.2.1.mv X4.warmed.alike hh4, (k2 i hi).1, s3.there X4.warmed.alike hh4, rf⟩)
    obtain ⟨rfl, q6⟩ := E6
    rw [chr8_lo8 hr.1 (k2 i hi).2] at g6
    exact ⟨T6, some (.int (f i)), _, _, _, X6, rfl, rfl, rfl, (fun h => by cases h), ⟨rfl, q6.trans hh4⟩, fun fs hl => Steps.trans g6 (X6.ireturnOut hexec hret (narrow_ch hr.1 hr.2) (Or.inr (Or.inr (Or.inr (Or.inl rfl)))) (hb hbytes d15) hl)⟩
  · exact absurd k0 (by decide)
theorem pays {l : Launch} {R : Room} {p : Program} {e : Env} {below : List Frame} {s : State} {sargs : Array Value} {len W : Nat} (x t : Addr) (V : Cell) (n : Nat) (f : Nat → Int32) (z : Int32) (fm : Value) (i : Nat) (htab : tab.before sargs s = true) (hfr : 4 ≤ R.frames) (hlo : W + 53 ≤ R.locals) :
    Back l R p e below s sargs yN len W (fun A₁ a₁ => A₁.cells + 0 ≤ R.cells ∧ A₁.slots + 0 ≤ R.slots ∧ P x t V n f z fm i a₁ A₁.U) (fun A₁ _ v₁ B₁ => E f i v₁ A₁.U B₁.U ∧ B₁.locs = A₁.locs ++ [] ∧ B₁.cells = A₁.cells + 0 ∧ B₁.slots = A₁.slots + 0) :=
  (law l x t V n f z fm i).pays htab hfr (by omega)
end ChN
end StrChars
namespace StrChars.Road
open Jvm Sem ClassFile Op Lib Jvm.Stand Jvm.Free Jvm.Free.XT
open Jvm.Lib.Cold (StaticIs)
/-- the words of String.charAt(int), the Latin-1 road alone -/
abbrev wordsChN : List Jvm.Cond := [.code ChN.yN ChN.yB 2 (some .char), .initialized ST, .fieldLink ST 9 ST "value" "[B", .fieldLink ST 38 ST "COMPACT_STRINGS" "Z", .fieldLink ST 15 ST "coder" "B", .code IsL.yN IsL.yB 1 (some .boolean), .methodLink ST 492 IsL.yN, .declares IsL.yN, .selects ST IsL.yN IsL.yN, .instanceMethod IsL.yN,
  .methodLink ST 495 LChA.yN, .static LChA.yN, .code LChA.yN LChA.yB 2 (some .char), .initialized "java/lang/StringLatin1", .methodLink "java/lang/StringLatin1" 9 JO.Str_checkIndex.yN, .static JO.Str_checkIndex.yN, .code JO.Str_checkIndex.yN JO.Str_checkIndex.yB 2 none,
  .fieldLink ST 1053 "jdk/internal/util/Preconditions" "SIOOBE_FORMATTER" "Ljava/util/function/BiFunction;", .methodLink ST 1059 JC.PreCheck.yN, .static JC.PreCheck.yN, .code JC.PreCheck.yN JC.PreCheck.yB 3 (some .int), .initialized "jdk/internal/util/Preconditions"]
theorem tabChN_of {a : Array Value} {s : State} (h : ∀ w ∈ wordsChN, w.before a s = true) : ChN.tab.before a s = true := by
  have hp : JC.PreCheck.tab.before a s = true := unparts (wk h (.code JC.PreCheck.yN JC.PreCheck.yB 3 (some .int))) (wks h (.initialized JC.PreCheck.yN.cls :: JC.PreCheck.site))
  have qk := consq hp h
  have hk : JO.Str_checkIndex.tab.before a s = true := unparts (wk qk (.code JO.Str_checkIndex.yN JO.Str_checkIndex.yB 2 none)) (wks qk (.initialized JO.Str_checkIndex.yN.cls :: JO.Str_checkIndex.site))
  have ql := consq hk h
  have hl : LChA.tab.before a s = true := unparts (wk ql (.code LChA.yN LChA.yB 2 (some .char))) (wks ql (.initialized LChA.yN.cls :: LChA.site))
  have hi : IsL.tab.before a s = true := unparts (wk h (.code IsL.yN IsL.yB 1 (some .boolean))) (wks h (.initialized IsL.yN.cls :: IsL.site))
  have q := consq hi (consq hl h)
  exact unparts (wk q (.code ChN.yN ChN.yB 2 (some .char))) (wks q (.initialized ChN.yN.cls :: ChN.site))
theorem movedChN {Z s : State} {a0 args : Array Value} (hZ : Z.Warmed39 s.vm) (hw : ∀ d ∈ wordsChN, d.before a0 Z = true) : ∀ d ∈ wordsChN, d.before args s = true := fun d hd => by
  have t : ∀ d ∈ wordsChN, (d.onTables && d.keepsFace) = true := by decide +kernel
  exact RoadKit.mv hZ (hw d hd) (t d hd)
/-- **charAt(i) OF A LATIN-1 STRING**, i < n: the char -/
theorem chN {p : Program} {l : Launch} {e : Env} {R : Room} {s : State} {args : Array Value} {below : List Frame} {len W : Nat} {Z : State} {a0 : Array Value} {h : Heap} (hZ : Z.Warmed39 s.vm) (hw : ∀ d ∈ wordsChN, d.before a0 Z = true) {kI : Nat} (wi : (Jvm.Cond.instantiable ST kI).before a0 Z = true)
    {x t : Addr} {kb : ClassId} {cs : List Int32} {N2 z : Int32} {vs : List Value} {fm : Value} {i : Nat} {j : Int32} (E : RoadKit.Exa Z h x ST) (V : RoadKit.Fld Z h x ST "value" "[B" (.ref t)) (C : RoadKit.Fld Z h x ST "coder" "B" (.int 0)) (K : RoadKit.Arv Z h t kb .byte N2 vs (.int 0)) (hc : CodA cs 0 N2 vs) (hb : ∀ c ∈ cs, ¬ c < 0 ∧ ¬ (65535 : Int32) < c)
    (S : RoadKit.Sta Z h ST "COMPACT_STRINGS" "Z" (.int z)) (hz : ¬ z = 0) (F : RoadKit.Sta Z h "jdk/internal/util/Preconditions" "SIOOBE_FORMATTER" "Ljava/util/function/BiFunction;" fm) (rf : fm.isRef = true) (l2 : cs.length ≤ 4000) (hi : i < cs.length) (hj : j = Int32.ofNat i) (hfr : 4 ≤ R.frames) (hlo : W + 53 ≤ R.locals) :
    Back l R p e below s args (⟨"java/lang/String", "charAt", "(I)C"⟩ : MethodName) len W (fun P a => a = #[.ref x, .int j] ∧ P.U.heap = h ∧ P.cells + 0 ≤ R.cells ∧ P.slots + 0 ≤ R.slots)
      (fun P _ v B => ∃ L, (v = some (.int (cs.getD i 0)) ∧ L = [] ∧ B.U.heap = h) ∧ B.locs = P.locs ++ L ∧ B.cells = P.cells + 0 ∧ B.slots = P.slots + 0) := by
  subst hj
  intro m meth c P g ig mk a X hg hsize hdg hW hn hp'
  obtain ⟨rfl, rfl, r1, r2⟩ := hp'
  have al : Z.vm.Alike P.U.vm := hZ.alike.trans X.warmed.alike
  obtain ⟨A, hx⟩ := txt_of wi al E V C K hc hb l2
  obtain ⟨v, B, X', ⟨⟨hv, hh⟩, hl, hk, hs⟩, st⟩ := ChN.pays x t A cs.length (fun j => cs.getD j 0) z fm i (tabChN_of (movedChN hZ hw)) hfr hlo m meth c P g ig mk _ X hg hsize hdg hW hn ⟨r1, r2, rfl, hx, hi, sta_is al S, hz, sta_is al F, rf⟩
  exact ⟨v, B, X', ⟨[], ⟨hv, rfl, hh⟩, hl, hk, hs⟩, st⟩
/-- what backV says of its String, as the contracts of this text ask it: cs's low bytes, coder 0 -/
theorem codOf {cs : List Int32} {n : Nat} (hn : cs.length = n) (hb : ∀ c ∈ cs, ¬ 255 < c) : CodA cs 0 (Int32.ofNat n) ((cs.map lo8).map Value.int) := Or.inl ⟨rfl, by rw [hn], by simp [List.map_map, Function.comp_def], hb⟩
end StrChars.Road
end Jvm.Pilot.@@N@@
namespace Jvm.Pilot.@@N@@
open Jvm Jvm.ClassFile Sem Op Lib Jvm.Free Jvm.Stand Jvm.LawKit Jvm.RoadKit Bundle Jvm.Pilot.@@N@@.Jvm.D
namespace Ow
/-! A small logic of walks: Wq says: from every state that stands at pc with these locals, this stack and this heap, the body runs to its end and Post holds there. -/
def Cx (l : Launch) (nw : Bool) (Z : State) (EL : List (String × Nat)) (a0 : Array Value) (n0 : Nat) (y : MethodName) (B : ByteArray) (ml : Nat) (ret : Option FieldType) (R : Room) (h0 : Heap) (fs : List Addr) (h : Heap) (ce sl : Nat)
    (p : Program) (e : Env) (s : State) (m : MethodId) (args : Array Value) (below : List Frame) (meth : Method) (c : Code) (T : State) (locs : List Loc) (vm : Vm) (k : Nat) : Prop :=
  (p.tables.exec = Jvm.exec ∧ c.code = B ∧ c.maxLocals = ml ∧ meth.sig.returnType = ret ∧ meth.locks = false ∧ meth.name = y.name ∧ vm.findClass y.cls = some m.cls ∧ s.heap = h0) ∧
  (Z.Warmed39 vm ∧ (∀ d ∈ tables_1, d.before a0 Z = true) ∧ EW Z a0 EL ∧ (nw = true → vm = s.vm ∧ EL = [])) ∧
  Stand p l e R (s.setVm vm) m args below meth c T locs ce sl ∧ T.heap = h ∧ (Fr n0 locs ∧ Old Z n0 h) ∧ (s.Since vm k ∧ k ≤ h.size) ∧ CHr Z EL s.vm h0 vm h ∧ ∀ x ∈ fs, n0 ≤ x ∧ x < h.size ∧ Safe Z EL vm h x
def Fn (nw : Bool) (Z : State) (EL : List (String × Nat)) (n0 : Nat) (R : Room) (h0 : Heap) (Post : Option Value → Heap → Prop) (p : Program) (e : Env) (s : State) (below : List Frame) (t : State) : Prop :=
  ∃ s₂ o, Steps p.tables e below t s₂ ∧ s₂.status = .running ∧ Ended s₂ below o ∧ ∃ v L, o = .returned v ∧ Post v s₂.heap ∧ (Fr n0 L ∧ Old Z n0 s₂.heap) ∧ CHr Z EL s.vm h0 s₂.vm s₂.heap ∧ ReturnedEndW s o s₂ L R.cells R.slots ∧ (nw = true → s.WarmedH s₂.vm)
def Wq (l : Launch) (nw : Bool) (Z : State) (EL : List (String × Nat)) (a0 : Array Value) (n0 : Nat) (y : MethodName) (B : ByteArray) (ml : Nat) (ret : Option FieldType) (R : Room) (h0 : Heap) (Post : Option Value → Heap → Prop) (fs : List Addr) (h : Heap) (ce sl pc : Nat) (L : Array Slot) (S : List Value) : Prop :=
  ∀ (p : Program) (e : Env) (s : State) (m : MethodId) (args : Array Value) (below : List Frame) (meth : Method) (c : Code) (T : State) (locs : List Loc) (vm : Vm) (k : Nat),
    Cx l nw Z EL a0 n0 y B ml ret R h0 fs h ce sl p e s m args below meth c T locs vm k → Fn nw Z EL n0 R h0 Post p e s below (T.setTop (mkF m pc L S))
section Rules
variable {l : Launch} {nw : Bool} {Z : State} {EL : List (String × Nat)} {a0 : Array Value} {n0 : Nat} {y : MethodName} {B : ByteArray} {ml : Nat} {ret : Option FieldType} {R : Room} {h0 : Heap} {Post : Option Value → Heap → Prop} {fs : List Addr} {h : Heap} {ce sl pc pc' : Nat} {L : Array Slot} {S : List Value}
theorem Fn.st {p : Program} {e : Env} {s : State} {below : List Frame} {t t' : State} (st : ∀ u, Steps p.tables e below t' u → Steps p.tables e below t u) (K : Fn nw Z EL n0 R h0 Post p e s below t') : Fn nw Z EL n0 R h0 Post p e s below t := by
  obtain ⟨s₂, o, h1, r⟩ := K
  exact ⟨s₂, o, st _ h1, r⟩
theorem pu {L' : Array Slot} {S' : List Value} (st : ∀ {p : Program} {e : Env} {m : MethodId} {below : List Frame} {c : Code} {T t : State}, At T m c below → p.tables.exec = Jvm.exec → c.code = B → Steps p.tables e below (T.setTop (mkF m pc' L' S')) t → Steps p.tables e below (T.setTop (mkF m pc L S)) t)
    (K : Wq l nw Z EL a0 n0 y B ml ret R h0 Post fs h ce sl pc' L' S') : Wq l nw Z EL a0 n0 y B ml ret R h0 Post fs h ce sl pc L S := fun p e s m args below meth c T locs vm k C =>
  (K p e s m args below meth c T locs vm k C).st fun u q => st C.2.2.1.here C.1.1 C.1.2.1 q
/-- cells and slots may be counted higher -/
theorem more {ce' sl' : Nat} (hc : ce ≤ ce') (hs : sl ≤ sl') (K : Wq l nw Z EL a0 n0 y B ml ret R h0 Post fs h ce' sl' pc L S) : Wq l nw Z EL a0 n0 y B ml ret R h0 Post fs h ce sl pc L S := fun p e s m args below meth c T locs vm k C =>
  K p e s m args below meth c T locs vm k ⟨C.1, C.2.1, C.2.2.1.more hc hs, C.2.2.2⟩
theorem fewer {fs' : List Addr} (hf : ∀ x ∈ fs', x ∈ fs) (K : Wq l nw Z EL a0 n0 y B ml ret R h0 Post fs' h ce sl pc L S) : Wq l nw Z EL a0 n0 y B ml ret R h0 Post fs h ce sl pc L S := fun p e s m args below meth c T locs vm k C =>
  K p e s m args below meth c T locs vm k ⟨C.1, C.2.1, C.2.2.1, C.2.2.2.1, C.2.2.2.2.1, C.2.2.2.2.2.1, C.2.2.2.2.2.2.1, fun x hx => C.2.2.2.2.2.2.2 x (hf x hx)⟩
theorem at' {L' : Array Slot} {S' : List Value} {ce' sl' : Nat} (e4 : ce = ce') (e5 : sl = sl') (e1 : pc = pc') (e2 : L = L') (e3 : S = S') (K : Wq l nw Z EL a0 n0 y B ml ret R h0 Post fs h ce' sl' pc' L' S') : Wq l nw Z EL a0 n0 y B ml ret R h0 Post fs h ce sl pc L S := by subst e1 e2 e3 e4 e5; exact K
/-- the words of the sheet, at hand in the walk -/
theorem words (K : (∀ d ∈ tables_1, d.before a0 Z = true) → Wq l nw Z EL a0 n0 y B ml ret R h0 Post fs h ce sl pc L S) : Wq l nw Z EL a0 n0 y B ml ret R h0 Post fs h ce sl pc L S := fun p e s m args below meth c T locs vm k C => K C.2.1.2.1 p e s m args below meth c T locs vm k C
theorem ews (K : (∀ d ∈ tables_1, d.before a0 Z = true) → EW Z a0 EL → Wq l nw Z EL a0 n0 y B ml ret R h0 Post fs h ce sl pc L S) : Wq l nw Z EL a0 n0 y B ml ret R h0 Post fs h ce sl pc L S := fun p e s m args below meth c T locs vm k C => K C.2.1.2.1 C.2.1.2.2.1 p e s m args below meth c T locs vm k C
theorem fsz (K : (∀ x ∈ fs, n0 ≤ x ∧ x < h.size) → Wq l nw Z EL a0 n0 y B ml ret R h0 Post fs h ce sl pc L S) : Wq l nw Z EL a0 n0 y B ml ret R h0 Post fs h ce sl pc L S := fun p e s m args below meth c T locs vm k C => K (fun x q => ⟨(C.2.2.2.2.2.2.2 x q).1, (C.2.2.2.2.2.2.2 x q).2.1⟩) p e s m args below meth c T locs vm k C
theorem old (K : Old Z n0 h → h0.size ≤ h.size → Wq l nw Z EL a0 n0 y B ml ret R h0 Post fs h ce sl pc L S) : Wq l nw Z EL a0 n0 y B ml ret R h0 Post fs h ce sl pc L S := fun p e s m args below meth c T locs vm k C => K C.2.2.2.2.1.2 C.2.2.2.2.2.2.1.2.1 p e s m args below meth c T locs vm k C
theorem iload {j : Nat} {v : Int32} (hd : decode B pc = .ok (.iload j, 2)) (hl : L[j]? = some (.val (.int v))) (hp : pc + 2 = pc') (K : Wq l nw Z EL a0 n0 y B ml ret R h0 Post fs h ce sl pc' L (.int v :: S)) : Wq l nw Z EL a0 n0 y B ml ret R h0 Post fs h ce sl pc L S :=
  pu (fun h hx hb q => by subst hp; exact XS.iload h hx rfl (Jvm.hb hb hd) hl q) K
theorem iloadN {j : Fin 4} {v : Int32} (hd : decode B pc = .ok (.iload_n j, 1)) (hl : L[j.val]? = some (.val (.int v))) (hp : pc + 1 = pc') (K : Wq l nw Z EL a0 n0 y B ml ret R h0 Post fs h ce sl pc' L (.int v :: S)) : Wq l nw Z EL a0 n0 y B ml ret R h0 Post fs h ce sl pc L S :=
  pu (fun h hx hb q => by subst hp; exact XS.iloadN h hx rfl (Jvm.hb hb hd) hl q) K
theorem lload {j : Nat} {v : Int64} (hd : decode B pc = .ok (.lload j, 2)) (hl : L[j]? = some (.val (.long v))) (hp : pc + 2 = pc') (K : Wq l nw Z EL a0 n0 y B ml ret R h0 Post fs h ce sl pc' L (.long v :: S)) : Wq l nw Z EL a0 n0 y B ml ret R h0 Post fs h ce sl pc L S :=
  pu (fun h hx hb q => by subst hp; exact XS.lload h hx rfl (Jvm.hb hb hd) hl q) K
theorem lloadN {j : Fin 4} {v : Int64} (hd : decode B pc = .ok (.lload_n j, 1)) (hl : L[j.val]? = some (.val (.long v))) (hp : pc + 1 = pc') (K : Wq l nw Z EL a0 n0 y B ml ret R h0 Post fs h ce sl pc' L (.long v :: S)) : Wq l nw Z EL a0 n0 y B ml ret R h0 Post fs h ce sl pc L S :=
  pu (fun h hx hb q => by subst hp; exact XS.lloadN h hx rfl (Jvm.hb hb hd) hl q) K
theorem dload {j : Nat} {v : UInt64} (hd : decode B pc = .ok (.dload j, 2)) (hl : L[j]? = some (.val (.double v))) (hp : pc + 2 = pc') (K : Wq l nw Z EL a0 n0 y B ml ret R h0 Post fs h ce sl pc' L (.double v :: S)) : Wq l nw Z EL a0 n0 y B ml ret R h0 Post fs h ce sl pc L S :=
  pu (fun h hx hb q => by subst hp; exact Jvm.Free.XS.dload h hx rfl (Jvm.hb hb hd) hl q) K
theorem dloadN {j : Fin 4} {v : UInt64} (hd : decode B pc = .ok (.dload_n j, 1)) (hl : L[j.val]? = some (.val (.double v))) (hp : pc + 1 = pc') (K : Wq l nw Z EL a0 n0 y B ml ret R h0 Post fs h ce sl pc' L (.double v :: S)) : Wq l nw Z EL a0 n0 y B ml ret R h0 Post fs h ce sl pc L S :=
  pu (fun h hx hb q => by subst hp; exact XS.dloadN h hx rfl (Jvm.hb hb hd) hl q) K
theorem aload {j : Nat} {v : Value} (hd : decode B pc = .ok (.aload j, 2)) (hl : L[j]? = some (.val v)) (hv : v.isRef = true) (hp : pc + 2 = pc') (K : Wq l nw Z EL a0 n0 y B ml ret R h0 Post fs h ce sl pc' L (v :: S)) : Wq l nw Z EL a0 n0 y B ml ret R h0 Post fs h ce sl pc L S :=
  pu (fun h hx hb q => by subst hp; exact XS.aload h hx rfl (Jvm.hb hb hd) hl hv q) K
theorem aloadN {j : Fin 4} {v : Value} (hd : decode B pc = .ok (.aload_n j, 1)) (hl : L[j.val]? = some (.val v)) (hv : v.isRef = true) (hp : pc + 1 = pc') (K : Wq l nw Z EL a0 n0 y B ml ret R h0 Post fs h ce sl pc' L (v :: S)) : Wq l nw Z EL a0 n0 y B ml ret R h0 Post fs h ce sl pc L S :=
  pu (fun h hx hb q => by subst hp; exact XS.aloadN h hx rfl (Jvm.hb hb hd) hl hv q) K
theorem istore {j : Nat} {v : Int32} {L' : Array Slot} (hd : decode B pc = .ok (.istore j, 2)) (hl : storeLocals L j (.int v) = some L') (hp : pc + 2 = pc') (K : Wq l nw Z EL a0 n0 y B ml ret R h0 Post fs h ce sl pc' L' S) : Wq l nw Z EL a0 n0 y B ml ret R h0 Post fs h ce sl pc L (.int v :: S) :=
  pu (fun h hx hb q => by subst hp; exact XS.istore h hx rfl (Jvm.hb hb hd) rfl hl q) K
theorem istoreN {j : Fin 4} {v : Int32} {L' : Array Slot} (hd : decode B pc = .ok (.istore_n j, 1)) (hl : storeLocals L j.val (.int v) = some L') (hp : pc + 1 = pc') (K : Wq l nw Z EL a0 n0 y B ml ret R h0 Post fs h ce sl pc' L' S) : Wq l nw Z EL a0 n0 y B ml ret R h0 Post fs h ce sl pc L (.int v :: S) :=
  pu (fun h hx hb q => by subst hp; exact XS.istoreN h hx rfl (Jvm.hb hb hd) rfl hl q) K
theorem lstore {j : Nat} {v : Int64} {L' : Array Slot} (hd : decode B pc = .ok (.lstore j, 2)) (hl : storeLocals L j (.long v) = some L') (hp : pc + 2 = pc') (K : Wq l nw Z EL a0 n0 y B ml ret R h0 Post fs h ce sl pc' L' S) : Wq l nw Z EL a0 n0 y B ml ret R h0 Post fs h ce sl pc L (.long v :: S) :=
  pu (fun h hx hb q => by subst hp; exact XS.lstore h hx rfl (Jvm.hb hb hd) rfl hl q) K
theorem lstoreN {j : Fin 4} {v : Int64} {L' : Array Slot} (hd : decode B pc = .ok (.lstore_n j, 1)) (hl : storeLocals L j.val (.long v) = some L') (hp : pc + 1 = pc') (K : Wq l nw Z EL a0 n0 y B ml ret R h0 Post fs h ce sl pc' L' S) : Wq l nw Z EL a0 n0 y B ml ret R h0 Post fs h ce sl pc L (.long v :: S) :=
  pu (fun h hx hb q => by subst hp; exact XS.lstoreN h hx rfl (Jvm.hb hb hd) rfl hl q) K
theorem dstore {j : Nat} {v : UInt64} {L' : Array Slot} (hd : decode B pc = .ok (.dstore j, 2)) (hl : storeLocals L j (.double v) = some L') (hp : pc + 2 = pc') (K : Wq l nw Z EL a0 n0 y B ml ret R h0 Post fs h ce sl pc' L' S) : Wq l nw Z EL a0 n0 y B ml ret R h0 Post fs h ce sl pc L (.double v :: S) :=
  pu (fun h hx hb q => by subst hp; exact XS.dstore h hx rfl (Jvm.hb hb hd) rfl hl q) K
theorem dstoreN {j : Fin 4} {v : UInt64} {L' : Array Slot} (hd : decode B pc = .ok (.dstore_n j, 1)) (hl : storeLocals L j.val (.double v) = some L') (hp : pc + 1 = pc') (K : Wq l nw Z EL a0 n0 y B ml ret R h0 Post fs h ce sl pc' L' S) : Wq l nw Z EL a0 n0 y B ml ret R h0 Post fs h ce sl pc L (.double v :: S) :=
  pu (fun h hx hb q => by subst hp; exact XS.dstoreN h hx rfl (Jvm.hb hb hd) rfl hl q) K
theorem astore {j : Nat} {v : Value} {L' : Array Slot} (hd : decode B pc = .ok (.astore j, 2)) (hv : v.isRef = true) (hl : storeLocals L j v = some L') (hp : pc + 2 = pc') (K : Wq l nw Z EL a0 n0 y B ml ret R h0 Post fs h ce sl pc' L' S) : Wq l nw Z EL a0 n0 y B ml ret R h0 Post fs h ce sl pc L (v :: S) :=
  pu (fun h hx hb q => by subst hp; exact XS.astore h hx rfl (Jvm.hb hb hd) rfl hv hl q) K
theorem astoreN {j : Fin 4} {v : Value} {L' : Array Slot} (hd : decode B pc = .ok (.astore_n j, 1)) (hv : v.isRef = true) (hl : storeLocals L j.val v = some L') (hp : pc + 1 = pc') (K : Wq l nw Z EL a0 n0 y B ml ret R h0 Post fs h ce sl pc' L' S) : Wq l nw Z EL a0 n0 y B ml ret R h0 Post fs h ce sl pc L (v :: S) :=
  pu (fun h hx hb q => by subst hp; exact XS.astoreN h hx rfl (Jvm.hb hb hd) rfl hv hl q) K
theorem iconst {i : Int} {v : Int32} (hd : decode B pc = .ok (.iconst i, 1)) (hv : Int32.ofInt i = v) (hp : pc + 1 = pc') (K : Wq l nw Z EL a0 n0 y B ml ret R h0 Post fs h ce sl pc' L (.int v :: S)) : Wq l nw Z EL a0 n0 y B ml ret R h0 Post fs h ce sl pc L S :=
  pu (fun h hx hb q => by subst hp hv; exact XS.iconst h hx rfl (Jvm.hb hb hd) q) K
theorem bipush {i : Int} {v : Int32} (hd : decode B pc = .ok (.bipush i, 2)) (hv : (Int8.ofInt i).toInt32 = v) (hp : pc + 2 = pc') (K : Wq l nw Z EL a0 n0 y B ml ret R h0 Post fs h ce sl pc' L (.int v :: S)) : Wq l nw Z EL a0 n0 y B ml ret R h0 Post fs h ce sl pc L S :=
  pu (fun h hx hb q => by subst hp hv; exact XS.bipush h hx rfl (Jvm.hb hb hd) q) K
theorem sipush {i : Int} {v : Int32} (hd : decode B pc = .ok (.sipush i, 3)) (hv : (Int16.ofInt i).toInt32 = v) (hp : pc + 3 = pc') (K : Wq l nw Z EL a0 n0 y B ml ret R h0 Post fs h ce sl pc' L (.int v :: S)) : Wq l nw Z EL a0 n0 y B ml ret R h0 Post fs h ce sl pc L S :=
  pu (fun h hx hb q => by subst hp hv; exact XS.sipush h hx rfl (Jvm.hb hb hd) q) K
theorem lconst {j : Fin 2} {v : Int64} (hd : decode B pc = .ok (.lconst j, 1)) (hv : Int64.ofNat j = v) (hp : pc + 1 = pc') (K : Wq l nw Z EL a0 n0 y B ml ret R h0 Post fs h ce sl pc' L (.long v :: S)) : Wq l nw Z EL a0 n0 y B ml ret R h0 Post fs h ce sl pc L S :=
  pu (fun h hx hb q => by subst hp hv; exact XS.lconst h hx rfl (Jvm.hb hb hd) q) K
theorem aconst_null  (hd : decode B pc = .ok (.aconst_null, 1)) (hp : pc + 1 = pc') (K : Wq l nw Z EL a0 n0 y B ml ret R h0 Post fs h ce sl pc' L (.null :: S)) : Wq l nw Z EL a0 n0 y B ml ret R h0 Post fs h ce sl pc L S :=
  pu (fun h hx hb q => by subst hp; exact XS.aconstNull h hx rfl (Jvm.hb hb hd) q) K
theorem iadd {x z : Int32} (hd : decode B pc = .ok (.iadd, 1)) (hp : pc + 1 = pc') (K : Wq l nw Z EL a0 n0 y B ml ret R h0 Post fs h ce sl pc' L (.int (x + z) :: S)) : Wq l nw Z EL a0 n0 y B ml ret R h0 Post fs h ce sl pc L (.int z :: .int x :: S) :=
  pu (fun h hx hb q => by subst hp; exact XS.iadd h hx rfl (Jvm.hb hb hd) rfl q) K
theorem isub {x z : Int32} (hd : decode B pc = .ok (.isub, 1)) (hp : pc + 1 = pc') (K : Wq l nw Z EL a0 n0 y B ml ret R h0 Post fs h ce sl pc' L (.int (x - z) :: S)) : Wq l nw Z EL a0 n0 y B ml ret R h0 Post fs h ce sl pc L (.int z :: .int x :: S) :=
  pu (fun h hx hb q => by subst hp; exact XS.isub h hx rfl (Jvm.hb hb hd) rfl q) K
theorem imul {x z : Int32} (hd : decode B pc = .ok (.imul, 1)) (hp : pc + 1 = pc') (K : Wq l nw Z EL a0 n0 y B ml ret R h0 Post fs h ce sl pc' L (.int (x * z) :: S)) : Wq l nw Z EL a0 n0 y B ml ret R h0 Post fs h ce sl pc L (.int z :: .int x :: S) :=
  pu (fun h hx hb q => by subst hp; exact XS.imul h hx rfl (Jvm.hb hb hd) rfl q) K
theorem iand {x z : Int32} (hd : decode B pc = .ok (.iand, 1)) (hp : pc + 1 = pc') (K : Wq l nw Z EL a0 n0 y B ml ret R h0 Post fs h ce sl pc' L (.int (x &&& z) :: S)) : Wq l nw Z EL a0 n0 y B ml ret R h0 Post fs h ce sl pc L (.int z :: .int x :: S) :=
  pu (fun h hx hb q => by subst hp; exact XS.iand h hx rfl (Jvm.hb hb hd) rfl q) K
theorem ior {x z : Int32} (hd : decode B pc = .ok (.ior, 1)) (hp : pc + 1 = pc') (K : Wq l nw Z EL a0 n0 y B ml ret R h0 Post fs h ce sl pc' L (.int (x ||| z) :: S)) : Wq l nw Z EL a0 n0 y B ml ret R h0 Post fs h ce sl pc L (.int z :: .int x :: S) :=
  pu (fun h hx hb q => by subst hp; exact XS.ior h hx rfl (Jvm.hb hb hd) rfl q) K
theorem ixor {x z : Int32} (hd : decode B pc = .ok (.ixor, 1)) (hp : pc + 1 = pc') (K : Wq l nw Z EL a0 n0 y B ml ret R h0 Post fs h ce sl pc' L (.int (x ^^^ z) :: S)) : Wq l nw Z EL a0 n0 y B ml ret R h0 Post fs h ce sl pc L (.int z :: .int x :: S) :=
  pu (fun h hx hb q => by subst hp; exact XS.ixor h hx rfl (Jvm.hb hb hd) rfl q) K
theorem ishl {x z : Int32} (hd : decode B pc = .ok (.ishl, 1)) (hp : pc + 1 = pc') (K : Wq l nw Z EL a0 n0 y B ml ret R h0 Post fs h ce sl pc' L (.int (x <<< (z &&& 31)) :: S)) : Wq l nw Z EL a0 n0 y B ml ret R h0 Post fs h ce sl pc L (.int z :: .int x :: S) :=
  pu (fun h hx hb q => by subst hp; exact XS.ishl h hx rfl (Jvm.hb hb hd) rfl q) K
theorem ishr {x z : Int32} (hd : decode B pc = .ok (.ishr, 1)) (hp : pc + 1 = pc') (K : Wq l nw Z EL a0 n0 y B ml ret R h0 Post fs h ce sl pc' L (.int (x >>> (z &&& 31)) :: S)) : Wq l nw Z EL a0 n0 y B ml ret R h0 Post fs h ce sl pc L (.int z :: .int x :: S) :=
  pu (fun h hx hb q => by subst hp; exact XS.ishr h hx rfl (Jvm.hb hb hd) rfl q) K
theorem iushr {x z : Int32} (hd : decode B pc = .ok (.iushr, 1)) (hp : pc + 1 = pc') (K : Wq l nw Z EL a0 n0 y B ml ret R h0 Post fs h ce sl pc' L (.int ((x.toUInt32 >>> (z &&& 31).toUInt32).toInt32) :: S)) : Wq l nw Z EL a0 n0 y B ml ret R h0 Post fs h ce sl pc L (.int z :: .int x :: S) :=
  pu (fun h hx hb q => by subst hp; exact XS.iushr h hx rfl (Jvm.hb hb hd) rfl q) K
theorem ladd {x z : Int64} (hd : decode B pc = .ok (.ladd, 1)) (hp : pc + 1 = pc') (K : Wq l nw Z EL a0 n0 y B ml ret R h0 Post fs h ce sl pc' L (.long (x + z) :: S)) : Wq l nw Z EL a0 n0 y B ml ret R h0 Post fs h ce sl pc L (.long z :: .long x :: S) :=
  pu (fun h hx hb q => by subst hp; exact XS.ladd h hx rfl (Jvm.hb hb hd) rfl q) K
theorem lsub {x z : Int64} (hd : decode B pc = .ok (.lsub, 1)) (hp : pc + 1 = pc') (K : Wq l nw Z EL a0 n0 y B ml ret R h0 Post fs h ce sl pc' L (.long (x - z) :: S)) : Wq l nw Z EL a0 n0 y B ml ret R h0 Post fs h ce sl pc L (.long z :: .long x :: S) :=
  pu (fun h hx hb q => by subst hp; exact XS.lsub h hx rfl (Jvm.hb hb hd) rfl q) K
theorem lmul {x z : Int64} (hd : decode B pc = .ok (.lmul, 1)) (hp : pc + 1 = pc') (K : Wq l nw Z EL a0 n0 y B ml ret R h0 Post fs h ce sl pc' L (.long (x * z) :: S)) : Wq l nw Z EL a0 n0 y B ml ret R h0 Post fs h ce sl pc L (.long z :: .long x :: S) :=
  pu (fun h hx hb q => by subst hp; exact XS.lmul h hx rfl (Jvm.hb hb hd) rfl q) K
theorem land {x z : Int64} (hd : decode B pc = .ok (.land, 1)) (hp : pc + 1 = pc') (K : Wq l nw Z EL a0 n0 y B ml ret R h0 Post fs h ce sl pc' L (.long (x &&& z) :: S)) : Wq l nw Z EL a0 n0 y B ml ret R h0 Post fs h ce sl pc L (.long z :: .long x :: S) :=
  pu (fun h hx hb q => by subst hp; exact XS.land h hx rfl (Jvm.hb hb hd) rfl q) K
theorem lor {x z : Int64} (hd : decode B pc = .ok (.lor, 1)) (hp : pc + 1 = pc') (K : Wq l nw Z EL a0 n0 y B ml ret R h0 Post fs h ce sl pc' L (.long (x ||| z) :: S)) : Wq l nw Z EL a0 n0 y B ml ret R h0 Post fs h ce sl pc L (.long z :: .long x :: S) :=
  pu (fun h hx hb q => by subst hp; exact XS.lor h hx rfl (Jvm.hb hb hd) rfl q) K
theorem lxor {x z : Int64} (hd : decode B pc = .ok (.lxor, 1)) (hp : pc + 1 = pc') (K : Wq l nw Z EL a0 n0 y B ml ret R h0 Post fs h ce sl pc' L (.long (x ^^^ z) :: S)) : Wq l nw Z EL a0 n0 y B ml ret R h0 Post fs h ce sl pc L (.long z :: .long x :: S) :=
  pu (fun h hx hb q => by subst hp; exact XS.lxor h hx rfl (Jvm.hb hb hd) rfl q) K
theorem lshl {x : Int64} {z : Int32} (hd : decode B pc = .ok (.lshl, 1)) (hp : pc + 1 = pc') (K : Wq l nw Z EL a0 n0 y B ml ret R h0 Post fs h ce sl pc' L (.long (x <<< (z &&& 0x3f).toInt64) :: S)) : Wq l nw Z EL a0 n0 y B ml ret R h0 Post fs h ce sl pc L (.int z :: .long x :: S) :=
  pu (fun h hx hb q => by subst hp; exact XS.lshl h hx rfl (Jvm.hb hb hd) rfl q) K
theorem lshr {x : Int64} {z : Int32} (hd : decode B pc = .ok (.lshr, 1)) (hp : pc + 1 = pc') (K : Wq l nw Z EL a0 n0 y B ml ret R h0 Post fs h ce sl pc' L (.long (x >>> (z &&& 0x3f).toInt64) :: S)) : Wq l nw Z EL a0 n0 y B ml ret R h0 Post fs h ce sl pc L (.int z :: .long x :: S) :=
  pu (fun h hx hb q => by subst hp; exact XS.lshr h hx rfl (Jvm.hb hb hd) rfl q) K
theorem lushr {x : Int64} {z : Int32} (hd : decode B pc = .ok (.lushr, 1)) (hp : pc + 1 = pc') (K : Wq l nw Z EL a0 n0 y B ml ret R h0 Post fs h ce sl pc' L (.long ((x.toUInt64 >>> (z &&& 0x3f).toInt64.toUInt64).toInt64) :: S)) : Wq l nw Z EL a0 n0 y B ml ret R h0 Post fs h ce sl pc L (.int z :: .long x :: S) :=
  pu (fun h hx hb q => by subst hp; exact XS.lushr h hx rfl (Jvm.hb hb hd) rfl q) K
theorem idiv {x z : Int32} (hd : decode B pc = .ok (.idiv, 1)) (hz : ¬ z = 0) (hp : pc + 1 = pc') (K : Wq l nw Z EL a0 n0 y B ml ret R h0 Post fs h ce sl pc' L (.int (x / z) :: S)) : Wq l nw Z EL a0 n0 y B ml ret R h0 Post fs h ce sl pc L (.int z :: .int x :: S) :=
  pu (fun h hx hb q => by subst hp; exact XS.idiv h hx rfl (Jvm.hb hb hd) rfl hz q) K
theorem ldiv {x z : Int64} (hd : decode B pc = .ok (.ldiv, 1)) (hz : ¬ z = 0) (hp : pc + 1 = pc') (K : Wq l nw Z EL a0 n0 y B ml ret R h0 Post fs h ce sl pc' L (.long (x / z) :: S)) : Wq l nw Z EL a0 n0 y B ml ret R h0 Post fs h ce sl pc L (.long z :: .long x :: S) :=
  pu (fun h hx hb q => by subst hp; exact XS.ldiv h hx rfl (Jvm.hb hb hd) rfl hz q) K
theorem irem {x z : Int32} (hd : decode B pc = .ok (.irem, 1)) (hz : ¬ z = 0) (hp : pc + 1 = pc') (K : Wq l nw Z EL a0 n0 y B ml ret R h0 Post fs h ce sl pc' L (.int (x % z) :: S)) : Wq l nw Z EL a0 n0 y B ml ret R h0 Post fs h ce sl pc L (.int z :: .int x :: S) := fun p e s m args below meth c T locs vm k C =>
  (K p e s m args below meth c T locs vm k C).st fun u q => by subst hp; exact iremM C.2.2.1 C.1.1 rfl (Jvm.hb C.1.2.1 hd) rfl hz q
theorem i2l {x : Int32} (hd : decode B pc = .ok (.i2l, 1)) (hp : pc + 1 = pc') (K : Wq l nw Z EL a0 n0 y B ml ret R h0 Post fs h ce sl pc' L (.long (x.toInt64) :: S)) : Wq l nw Z EL a0 n0 y B ml ret R h0 Post fs h ce sl pc L (.int x :: S) :=
  pu (fun h hx hb q => by subst hp; exact XS.i2l h hx rfl (Jvm.hb hb hd) rfl q) K
theorem l2i {x : Int64} (hd : decode B pc = .ok (.l2i, 1)) (hp : pc + 1 = pc') (K : Wq l nw Z EL a0 n0 y B ml ret R h0 Post fs h ce sl pc' L (.int (x.toInt32) :: S)) : Wq l nw Z EL a0 n0 y B ml ret R h0 Post fs h ce sl pc L (.long x :: S) :=
  pu (fun h hx hb q => by subst hp; exact XS.l2i h hx rfl (Jvm.hb hb hd) rfl q) K
theorem i2b {x : Int32} (hd : decode B pc = .ok (.i2b, 1)) (hp : pc + 1 = pc') (K : Wq l nw Z EL a0 n0 y B ml ret R h0 Post fs h ce sl pc' L (.int (x.toInt8.toInt32) :: S)) : Wq l nw Z EL a0 n0 y B ml ret R h0 Post fs h ce sl pc L (.int x :: S) :=
  pu (fun h hx hb q => by subst hp; exact XS.i2b h hx rfl (Jvm.hb hb hd) rfl q) K
theorem i2c {x : Int32} (hd : decode B pc = .ok (.i2c, 1)) (hp : pc + 1 = pc') (K : Wq l nw Z EL a0 n0 y B ml ret R h0 Post fs h ce sl pc' L (.int (x.toUInt32.toUInt16.toUInt32.toInt32) :: S)) : Wq l nw Z EL a0 n0 y B ml ret R h0 Post fs h ce sl pc L (.int x :: S) :=
  pu (fun h hx hb q => by subst hp; exact XS.i2c h hx rfl (Jvm.hb hb hd) rfl q) K
theorem i2s {x : Int32} (hd : decode B pc = .ok (.i2s, 1)) (hp : pc + 1 = pc') (K : Wq l nw Z EL a0 n0 y B ml ret R h0 Post fs h ce sl pc' L (.int (x.toInt16.toInt32) :: S)) : Wq l nw Z EL a0 n0 y B ml ret R h0 Post fs h ce sl pc L (.int x :: S) :=
  pu (fun h hx hb q => by subst hp; exact XS.i2s h hx rfl (Jvm.hb hb hd) rfl q) K
theorem ineg {x : Int32} (hd : decode B pc = .ok (.ineg, 1)) (hp : pc + 1 = pc') (K : Wq l nw Z EL a0 n0 y B ml ret R h0 Post fs h ce sl pc' L (.int (-x) :: S)) : Wq l nw Z EL a0 n0 y B ml ret R h0 Post fs h ce sl pc L (.int x :: S) :=
  pu (fun h hx hb q => by subst hp; exact XS.ineg h hx rfl (Jvm.hb hb hd) rfl q) K
theorem lneg {x : Int64} (hd : decode B pc = .ok (.lneg, 1)) (hp : pc + 1 = pc') (K : Wq l nw Z EL a0 n0 y B ml ret R h0 Post fs h ce sl pc' L (.long (-x) :: S)) : Wq l nw Z EL a0 n0 y B ml ret R h0 Post fs h ce sl pc L (.long x :: S) :=
  pu (fun h hx hb q => by subst hp; exact XS.lneg h hx rfl (Jvm.hb hb hd) rfl q) K
theorem lcmp {x z : Int64} (hd : decode B pc = .ok (.lcmp, 1)) (hp : pc + 1 = pc') (K : Wq l nw Z EL a0 n0 y B ml ret R h0 Post fs h ce sl pc' L (.int (lcmpW x z) :: S)) : Wq l nw Z EL a0 n0 y B ml ret R h0 Post fs h ce sl pc L (.long z :: .long x :: S) :=
  pu (fun h hx hb q => by subst hp; exact XS.lcmp h hx rfl (Jvm.hb hb hd) rfl q) K
theorem iinc {j : Nat} {i : Int} {x v : Int32} {L' : Array Slot} (hd : decode B pc = .ok (.iinc j i, 3)) (hl : L[j]? = some (.val (.int x))) (hv : x + Int32.ofInt i = v) (hl' : storeLocals L j (.int v) = some L') (hp : pc + 3 = pc') (K : Wq l nw Z EL a0 n0 y B ml ret R h0 Post fs h ce sl pc' L' S) : Wq l nw Z EL a0 n0 y B ml ret R h0 Post fs h ce sl pc L S :=
  pu (fun h hx hb q => by subst hp hv; exact XS.iinc h hx rfl (Jvm.hb hb hd) hl hl' q) K
theorem dup {v : Value} (hd : decode B pc = .ok (.dup, 1)) (hc : v.category = 1) (hp : pc + 1 = pc') (K : Wq l nw Z EL a0 n0 y B ml ret R h0 Post fs h ce sl pc' L (v :: v :: S)) : Wq l nw Z EL a0 n0 y B ml ret R h0 Post fs h ce sl pc L (v :: S) :=
  pu (fun h hx hb q => by subst hp; exact XS.dup h hx rfl (Jvm.hb hb hd) rfl hc q) K
theorem pop {v : Value} (hd : decode B pc = .ok (.pop, 1)) (hc : v.category = 1) (hp : pc + 1 = pc') (K : Wq l nw Z EL a0 n0 y B ml ret R h0 Post fs h ce sl pc' L S) : Wq l nw Z EL a0 n0 y B ml ret R h0 Post fs h ce sl pc L (v :: S) :=
  pu (fun h hx hb q => by subst hp; exact XS.pop h hx rfl (Jvm.hb hb hd) rfl hc q) K
theorem dup_x1 {v w : Value} (hd : decode B pc = .ok (.dup_x1, 1)) (hc : v.category = 1) (hc2 : w.category = 1) (hp : pc + 1 = pc') (K : Wq l nw Z EL a0 n0 y B ml ret R h0 Post fs h ce sl pc' L (v :: w :: v :: S)) : Wq l nw Z EL a0 n0 y B ml ret R h0 Post fs h ce sl pc L (v :: w :: S) :=
  pu (fun h hx hb q => by subst hp; exact XS.dupX1 h hx rfl (Jvm.hb hb hd) rfl hc hc2 q) K
theorem i2d {x : Int32} (hd : decode B pc = .ok (.i2d, 1)) (hp : pc + 1 = pc') (K : Wq l nw Z EL a0 n0 y B ml ret R h0 Post fs h ce sl pc' L (.double (FP.i2d x) :: S)) : Wq l nw Z EL a0 n0 y B ml ret R h0 Post fs h ce sl pc L (.int x :: S) :=
  pu (fun h hx hb q => by subst hp; exact XS.i2dS h hx rfl (Jvm.hb hb hd) rfl rfl q) K
theorem l2d {x : Int64} (hd : decode B pc = .ok (.l2d, 1)) (hp : pc + 1 = pc') (K : Wq l nw Z EL a0 n0 y B ml ret R h0 Post fs h ce sl pc' L (.double (FP.l2d x) :: S)) : Wq l nw Z EL a0 n0 y B ml ret R h0 Post fs h ce sl pc L (.long x :: S) :=
  pu (fun h hx hb q => by subst hp; exact XS.l2dS h hx rfl (Jvm.hb hb hd) rfl rfl q) K
theorem dcmp {o : CmpOp} {x z : UInt64} (hd : decode B pc = .ok (.dcmp o, 1)) (hp : pc + 1 = pc') (K : Wq l nw Z EL a0 n0 y B ml ret R h0 Post fs h ce sl pc' L (.int (cmpValue (FP.dcmp x z) o) :: S)) : Wq l nw Z EL a0 n0 y B ml ret R h0 Post fs h ce sl pc L (.double z :: .double x :: S) :=
  pu (fun h hx hb q => by subst hp; exact XS.dcmpS h hx rfl (Jvm.hb hb hd) rfl rfl q) K
theorem dconst0 {v : UInt64} (hd : decode B pc = .ok (.dconst 0, 1)) (hv : FP.dconst0 = v) (hp : pc + 1 = pc') (K : Wq l nw Z EL a0 n0 y B ml ret R h0 Post fs h ce sl pc' L (.double v :: S)) : Wq l nw Z EL a0 n0 y B ml ret R h0 Post fs h ce sl pc L S :=
  pu (fun h hx hb q => by subst hp; exact XS.dconst0 h hx rfl (Jvm.hb hb hd) hv q) K
theorem dconst1 {v : UInt64} (hd : decode B pc = .ok (.dconst 1, 1)) (hv : FP.dconst1 = v) (hp : pc + 1 = pc') (K : Wq l nw Z EL a0 n0 y B ml ret R h0 Post fs h ce sl pc' L (.double v :: S)) : Wq l nw Z EL a0 n0 y B ml ret R h0 Post fs h ce sl pc L S :=
  pu (fun h hx hb q => by subst hp; exact XS.dconst1 h hx rfl (Jvm.hb hb hd) hv q) K
theorem dadd {x z v : UInt64} (hd : decode B pc = .ok (.dadd, 1)) (hn : Jvm.Free.Fl.NoNaN64 (FP.dadd x z)) (hv : FP.dadd x z = v) (hp : pc + 1 = pc') (K : Wq l nw Z EL a0 n0 y B ml ret R h0 Post fs h ce sl pc' L (.double v :: S)) : Wq l nw Z EL a0 n0 y B ml ret R h0 Post fs h ce sl pc L (.double z :: .double x :: S) :=
  pu (fun h hx hb q => by subst hp; exact XS.daddS h hx rfl (Jvm.hb hb hd) rfl hn hv q) K
theorem dsub {x z v : UInt64} (hd : decode B pc = .ok (.dsub, 1)) (hn : Jvm.Free.Fl.NoNaN64 (FP.dsub x z)) (hv : FP.dsub x z = v) (hp : pc + 1 = pc') (K : Wq l nw Z EL a0 n0 y B ml ret R h0 Post fs h ce sl pc' L (.double v :: S)) : Wq l nw Z EL a0 n0 y B ml ret R h0 Post fs h ce sl pc L (.double z :: .double x :: S) :=
  pu (fun h hx hb q => by subst hp; exact XS.dsubS h hx rfl (Jvm.hb hb hd) rfl hn hv q) K
theorem dmul {x z v : UInt64} (hd : decode B pc = .ok (.dmul, 1)) (hn : Jvm.Free.Fl.NoNaN64 (FP.dmul x z)) (hv : FP.dmul x z = v) (hp : pc + 1 = pc') (K : Wq l nw Z EL a0 n0 y B ml ret R h0 Post fs h ce sl pc' L (.double v :: S)) : Wq l nw Z EL a0 n0 y B ml ret R h0 Post fs h ce sl pc L (.double z :: .double x :: S) :=
  pu (fun h hx hb q => by subst hp; exact XS.dmulS h hx rfl (Jvm.hb hb hd) rfl hn hv q) K
theorem ddiv {x z v : UInt64} (hd : decode B pc = .ok (.ddiv, 1)) (hn : Jvm.Free.Fl.NoNaN64 (FP.ddiv x z)) (hv : FP.ddiv x z = v) (hp : pc + 1 = pc') (K : Wq l nw Z EL a0 n0 y B ml ret R h0 Post fs h ce sl pc' L (.double v :: S)) : Wq l nw Z EL a0 n0 y B ml ret R h0 Post fs h ce sl pc L (.double z :: .double x :: S) :=
  pu (fun h hx hb q => by subst hp; exact XS.ddivS h hx rfl (Jvm.hb hb hd) rfl hn hv q) K
theorem goto {o : Int} (hd : decode B pc = .ok (.goto o, 3)) (ho : 0 ≤ (pc : Int) + o) (hp : ((pc : Int) + o).toNat = pc') (K : Wq l nw Z EL a0 n0 y B ml ret R h0 Post fs h ce sl pc' L S) : Wq l nw Z EL a0 n0 y B ml ret R h0 Post fs h ce sl pc L S :=
  pu (fun h hx hb q => XS.goto h hx rfl (pc0 := pc) rfl (Jvm.hb hb hd) ho hp q) K
def rel (cd : ClassFile.Cond) (x z : Int32) : Prop := match cd with
  | .eq => x = z
  | .ne => ¬ x = z
  | .lt => x < z
  | .ge => ¬ x < z
  | .gt => z < x
  | .le => ¬ z < x
def relN (cd : ClassFile.Cond) (x z : Int32) : Prop := match cd with
  | .eq => ¬ x = z
  | .ne => x = z
  | .lt => ¬ x < z
  | .ge => x < z
  | .gt => ¬ z < x
  | .le => z < x
theorem rel_t {cd : ClassFile.Cond} {x z : Int32} (h : rel cd x z) : if_icmp.holds cd x z = true := by
  cases cd
  · exact (teq h).1
  · exact (feq h).2
  · exact (tlt h).1
  · exact (flt h).2.1
  · exact (tlt h).2.2.1
  · exact (flt h).2.2.2
theorem rel_f {cd : ClassFile.Cond} {x z : Int32} (h : relN cd x z) : if_icmp.holds cd x z = false := by
  cases cd
  · exact (feq h).1
  · exact (teq h).2
  · exact (flt h).1
  · exact (tlt h).2.1
  · exact (flt h).2.2.1
  · exact (tlt h).2.2.2
theorem rel_or (cd : ClassFile.Cond) (x z : Int32) : rel cd x z ∨ relN cd x z := by
  cases cd <;> simp only [rel, relN] <;> first | exact Decidable.em _ | exact (Decidable.em _).symm
theorem icmpT {cd : ClassFile.Cond} {o : Int} {x z : Int32} (hd : decode B pc = .ok (.if_icmp cd o, 3)) (hc : rel cd x z) (ho : 0 ≤ (pc : Int) + o) (hp : ((pc : Int) + o).toNat = pc') (K : Wq l nw Z EL a0 n0 y B ml ret R h0 Post fs h ce sl pc' L S) : Wq l nw Z EL a0 n0 y B ml ret R h0 Post fs h ce sl pc L (.int z :: .int x :: S) :=
  pu (fun h hx hb q => XS.icmpYes h hx rfl (pc0 := pc) rfl (Jvm.hb hb hd) rfl (rel_t hc) ho hp q) K
theorem icmpF {cd : ClassFile.Cond} {o : Int} {x z : Int32} (hd : decode B pc = .ok (.if_icmp cd o, 3)) (hc : relN cd x z) (hp : pc + 3 = pc') (K : Wq l nw Z EL a0 n0 y B ml ret R h0 Post fs h ce sl pc' L S) : Wq l nw Z EL a0 n0 y B ml ret R h0 Post fs h ce sl pc L (.int z :: .int x :: S) :=
  pu (fun h hx hb q => by subst hp; exact XS.icmpNo h hx rfl (Jvm.hb hb hd) rfl (rel_f hc) q) K
theorem icmp {cd : ClassFile.Cond} {o : Int} {x z : Int32} {pcF : Nat} (hd : decode B pc = .ok (.if_icmp cd o, 3)) (ho : 0 ≤ (pc : Int) + o) (hp : ((pc : Int) + o).toNat = pc') (hp2 : pc + 3 = pcF) (K : rel cd x z → Wq l nw Z EL a0 n0 y B ml ret R h0 Post fs h ce sl pc' L S) (K2 : relN cd x z → Wq l nw Z EL a0 n0 y B ml ret R h0 Post fs h ce sl pcF L S) : Wq l nw Z EL a0 n0 y B ml ret R h0 Post fs h ce sl pc L (.int z :: .int x :: S) :=
  (rel_or cd x z).elim (fun q => icmpT hd q ho hp (K q)) (fun q => icmpF hd q hp2 (K2 q))
theorem ifT {cd : ClassFile.Cond} {o : Int} {x : Int32} (hd : decode B pc = .ok (.ifCond cd o, 3)) (hc : rel cd x 0) (ho : 0 ≤ (pc : Int) + o) (hp : ((pc : Int) + o).toNat = pc') (K : Wq l nw Z EL a0 n0 y B ml ret R h0 Post fs h ce sl pc' L S) : Wq l nw Z EL a0 n0 y B ml ret R h0 Post fs h ce sl pc L (.int x :: S) :=
  pu (fun h hx hb q => XS.ifYes h hx rfl (pc0 := pc) rfl (Jvm.hb hb hd) rfl ((if0 _ _).trans (rel_t hc)) ho hp q) K
theorem ifF {cd : ClassFile.Cond} {o : Int} {x : Int32} (hd : decode B pc = .ok (.ifCond cd o, 3)) (hc : relN cd x 0) (hp : pc + 3 = pc') (K : Wq l nw Z EL a0 n0 y B ml ret R h0 Post fs h ce sl pc' L S) : Wq l nw Z EL a0 n0 y B ml ret R h0 Post fs h ce sl pc L (.int x :: S) :=
  pu (fun h hx hb q => by subst hp; exact XS.ifNo h hx rfl (Jvm.hb hb hd) rfl ((if0 _ _).trans (rel_f hc)) q) K
theorem ifc {cd : ClassFile.Cond} {o : Int} {x : Int32} {pcF : Nat} (hd : decode B pc = .ok (.ifCond cd o, 3)) (ho : 0 ≤ (pc : Int) + o) (hp : ((pc : Int) + o).toNat = pc') (hp2 : pc + 3 = pcF) (K : rel cd x 0 → Wq l nw Z EL a0 n0 y B ml ret R h0 Post fs h ce sl pc' L S) (K2 : relN cd x 0 → Wq l nw Z EL a0 n0 y B ml ret R h0 Post fs h ce sl pcF L S) : Wq l nw Z EL a0 n0 y B ml ret R h0 Post fs h ce sl pc L (.int x :: S) :=
  (rel_or cd x 0).elim (fun q => ifT hd q ho hp (K q)) (fun q => ifF hd q hp2 (K2 q))
theorem ifnullT {o : Int} (hd : decode B pc = .ok (.ifnull o, 3)) (ho : 0 ≤ (pc : Int) + o) (hp : ((pc : Int) + o).toNat = pc') (K : Wq l nw Z EL a0 n0 y B ml ret R h0 Post fs h ce sl pc' L S) : Wq l nw Z EL a0 n0 y B ml ret R h0 Post fs h ce sl pc L (.null :: S) :=
  pu (fun h hx hb q => XS.ifnullYes h hx rfl (pc0 := pc) rfl (Jvm.hb hb hd) rfl ho hp q) K
theorem ifnullF {o : Int} {a : Addr} (hd : decode B pc = .ok (.ifnull o, 3)) (hp : pc + 3 = pc') (K : Wq l nw Z EL a0 n0 y B ml ret R h0 Post fs h ce sl pc' L S) : Wq l nw Z EL a0 n0 y B ml ret R h0 Post fs h ce sl pc L (.ref a :: S) :=
  pu (fun h hx hb q => by subst hp; exact XS.ifnullNo h hx rfl (Jvm.hb hb hd) rfl q) K
theorem ifnonnullT {o : Int} {a : Addr} (hd : decode B pc = .ok (.ifnonnull o, 3)) (ho : 0 ≤ (pc : Int) + o) (hp : ((pc : Int) + o).toNat = pc') (K : Wq l nw Z EL a0 n0 y B ml ret R h0 Post fs h ce sl pc' L S) : Wq l nw Z EL a0 n0 y B ml ret R h0 Post fs h ce sl pc L (.ref a :: S) :=
  pu (fun h hx hb q => XS.ifnonnullYes h hx rfl (pc0 := pc) rfl (Jvm.hb hb hd) rfl ho hp q) K
theorem ifnonnullF {o : Int} (hd : decode B pc = .ok (.ifnonnull o, 3)) (hp : pc + 3 = pc') (K : Wq l nw Z EL a0 n0 y B ml ret R h0 Post fs h ce sl pc' L S) : Wq l nw Z EL a0 n0 y B ml ret R h0 Post fs h ce sl pc L (.null :: S) :=
  pu (fun h hx hb q => by subst hp; exact XS.ifnonnullNo h hx rfl (Jvm.hb hb hd) rfl q) K
/-- two references compared: same or not -/
theorem acmp {cd : ACond} {o : Int} {v w : Value} (same : Bool) (hd : decode B pc = .ok (.if_acmp cd o, 3)) (h1 : v.isRef = true) (h2 : w.isRef = true) (hc : decide (v = w) = same) (ho : 0 ≤ (pc : Int) + o) (hp : pc' = if acV cd same = true then ((pc : Int) + o).toNat else pc + 3) (K : Wq l nw Z EL a0 n0 y B ml ret R h0 Post fs h ce sl pc' L S) : Wq l nw Z EL a0 n0 y B ml ret R h0 Post fs h ce sl pc L (w :: v :: S) := fun p e s m args below meth c T locs vm k C =>
  (K p e s m args below meth c T locs vm k C).st fun u q => Jvm.RoadKit.acmp (g := mkF m pc L (w :: v :: S)) C.2.2.1 C.1.1 rfl h1 h2 (pc0 := pc) (pc' := pc') (same := same) rfl (Jvm.hb C.1.2.1 hd) rfl hc ho hp q
/-- a step that hands back a state with the same heap -/
theorem same {L' : Array Slot} {S' : List Value} (st : ∀ {p : Program} {e : Env} {s : State} {m : MethodId} {args : Array Value} {below : List Frame} {meth : Method} {c : Code} {T : State} {locs : List Loc}, p.tables.exec = Jvm.exec → c.code = B → s.vm.findClass y.cls = some m.cls → Z.Warmed39 s.vm → (∀ d ∈ tables_1, d.before a0 Z = true) → T.heap = h → c.maxLocals = ml →
      Stand p l e R s m args below meth c T locs ce sl → ∃ T', Stand p l e R s m args below meth c T' locs ce sl ∧ T'.heap = h ∧ ∀ u, Steps p.tables e below (T'.setTop (mkF m pc' L' S')) u → Steps p.tables e below (T.setTop (mkF m pc L S)) u)
    (K : Wq l nw Z EL a0 n0 y B ml ret R h0 Post fs h ce sl pc' L' S') : Wq l nw Z EL a0 n0 y B ml ret R h0 Post fs h ce sl pc L S := fun p e s m args below meth c T locs vm k C => by
  obtain ⟨⟨hx, hby, hml, hret, hlk, hnm, hown, hh0⟩, ⟨hZ, hw, hEL, hnw⟩, X, hT, ⟨hN, hO⟩, ⟨hS, hk⟩, hC, hF⟩ := C
  obtain ⟨T', X', e', q⟩ := st (s := s.setVm vm) hx hby hown hZ hw hT hml X
  exact (K p e s m args below meth c T' locs vm k ⟨⟨hx, hby, hml, hret, hlk, hnm, hown, hh0⟩, ⟨hZ, hw, hEL, hnw⟩, X', e', ⟨hN, hO⟩, ⟨hS, hk⟩, hC, hF⟩).st q
/-- a step that makes new cells -/
theorem grow {L' : Array Slot} {S' : List Value} {ce' sl' : Nat} {P : Heap → Prop} (st : ∀ {p : Program} {e : Env} {s : State} {m : MethodId} {args : Array Value} {below : List Frame} {meth : Method} {c : Code} {T : State} {locs : List Loc}, p.tables.exec = Jvm.exec → c.code = B → s.vm.findClass y.cls = some m.cls → Z.Warmed39 s.vm → (∀ d ∈ tables_1, d.before a0 Z = true) → T.heap = h → c.maxLocals = ml →
      Stand p l e R s m args below meth c T locs ce sl → ∃ T' h', Stand p l e R s m args below meth c T' locs ce' sl' ∧ T'.heap = h' ∧ Ext h h' ∧ P h' ∧ ∀ u, Steps p.tables e below (T'.setTop (mkF m pc' L' S')) u → Steps p.tables e below (T.setTop (mkF m pc L S)) u)
    {fs' : List Addr} (hfs : ∀ x ∈ fs', x ∈ fs ∨ x = h.size) (hlt : ∀ h', Ext h h' → P h' → h.size < h'.size) (K : ∀ h', Ext h h' → P h' → Wq l nw Z EL a0 n0 y B ml ret R h0 Post fs' h' ce' sl' pc' L' S') : Wq l nw Z EL a0 n0 y B ml ret R h0 Post fs h ce sl pc L S := fun p e s m args below meth c T locs vm k C => by
  obtain ⟨⟨hx, hby, hml, hret, hlk, hnm, hown, hh0⟩, ⟨hZ, hw, hEL, hnw⟩, X, hT, ⟨hN, hO⟩, ⟨hS, hk⟩, hC, hF⟩ := C
  obtain ⟨T', h', X', e', E, hP, q⟩ := st (s := s.setVm vm) hx hby hown hZ hw hT hml X
  have hC' := hC.trans (CHr.ext E hC.1)
  refine (K h' E hP p e s m args below meth c T' locs vm k ⟨⟨hx, hby, hml, hret, hlk, hnm, hown, hh0⟩, ⟨hZ, hw, hEL, hnw⟩, X', e', ⟨hN, hO.ext E⟩, ⟨hS, Nat.le_trans hk E.1⟩, hC', fun x q => ?_⟩).st q
  rcases hfs x q with r | rfl
  · exact ⟨(hF x r).1, Nat.lt_of_lt_of_le (hF x r).2.1 E.1, Safe.ext E hC.1 (hF x r).2.2⟩
  · exact ⟨by have := hO.2.1; rw [hO.1] at this; exact this, hlt h' E hP, Safe.ext E hC.1 (Safe.new (Nat.le_refl _))⟩
/-- a step that writes one slot -/
theorem wrote {S' : List Value} {a : Addr} {j : Nat} {v : Value} (st : ∀ {p : Program} {e : Env} {s : State} {m : MethodId} {args : Array Value} {below : List Frame} {meth : Method} {c : Code} {T : State} {locs : List Loc}, p.tables.exec = Jvm.exec → c.code = B → s.vm.findClass y.cls = some m.cls → meth.name = y.name → Z.Warmed39 s.vm → (∀ d ∈ tables_1, d.before a0 Z = true) → T.heap = h →
      Stand p l e R s m args below meth c T locs ce sl → ∃ T' h', Stand p l e R s m args below meth c T' (locs ++ [⟨a, j⟩]) ce sl ∧ T'.heap = h' ∧ Wr h h' a j v ∧ ∀ u, Steps p.tables e below (T'.setTop (mkF m pc' L S')) u → Steps p.tables e below (T.setTop (mkF m pc L S)) u)
    (hf : a ∈ fs) (K : ∀ h', Wr h h' a j v → Wq l nw Z EL a0 n0 y B ml ret R h0 Post fs h' ce sl pc' L S') : Wq l nw Z EL a0 n0 y B ml ret R h0 Post fs h ce sl pc L S := fun p e s m args below meth c T locs vm k C => by
  obtain ⟨⟨hx, hby, hml, hret, hlk, hnm, hown, hh0⟩, ⟨hZ, hw, hEL, hnw⟩, X, hT, ⟨hN, hO⟩, ⟨hS, hk⟩, hC, hF⟩ := C
  obtain ⟨T', h', X', e', W', q⟩ := st (s := s.setVm vm) hx hby hown hnm hZ hw hT X
  have hsf := (hF a hf).2.2
  have hsz : h'.size = h.size := W'.size
  exact (K h' W' p e s m args below meth c T' _ vm k ⟨⟨hx, hby, hml, hret, hlk, hnm, hown, hh0⟩, ⟨hZ, hw, hEL, hnw⟩, X', e', ⟨Fr.snoc X' hN (hF a hf).1, hO.wr W' (hF a hf).1⟩, ⟨hS, (by rw [hsz]; exact hk)⟩, hC.trans (CHr.wr W' hsf hC.1), fun x r => ⟨(hF x r).1, by rw [hsz]; exact (hF x r).2.1, Safe.wr W' hsf hC.1 (hF x r).2.2⟩⟩).st q
theorem wat {d : Jvm.Cond} (hw : ∀ d ∈ tables_1, d.before a0 Z = true) {i : Nat} (h : tables_1[i]? = some d) : d.before a0 Z = true := hw _ (List.mem_of_getElem? h)
theorem getfield {i ix : Nat} {C n d : String} {a : Addr} {v : Value} (hd : decode B pc = .ok (.getfield ix, 3)) (w : tables_1[i]? = some (.fieldLink y.cls ix C n d)) (F : Fld Z h a C n d v) (hp : pc + 3 = pc') (K : Wq l nw Z EL a0 n0 y B ml ret R h0 Post fs h ce sl pc' L (v :: S)) : Wq l nw Z EL a0 n0 y B ml ret R h0 Post fs h ce sl pc L (.ref a :: S) :=
  same (fun hx hby hown hZ hw hT _ X => by subst hp; exact getF X hx hZ hown (host := "") (Or.inl (wat hw w)) Via.refl hT F (g := mkF _ pc L (.ref a :: S)) rfl rfl (Jvm.hb hby hd)) K
theorem getstatic {i ix : Nat} {C n d : String} {v : Value} (hd : decode B pc = .ok (.getstatic ix, 3)) (w : tables_1[i]? = some (.fieldLink y.cls ix C n d)) (F : Sta Z h C n d v) (hp : pc + 3 = pc') (K : Wq l nw Z EL a0 n0 y B ml ret R h0 Post fs h ce sl pc' L (v :: S)) : Wq l nw Z EL a0 n0 y B ml ret R h0 Post fs h ce sl pc L S :=
  same (fun hx hby hown hZ hw hT _ X => by subst hp; exact getS2 X hx hZ hown (host := "") (Or.inl (wat hw w)) Via.refl hT F (g := mkF _ pc L S) rfl (Jvm.hb hby hd)) K
theorem putfield {i i2 i3 ix kk : Nat} {C O n d : String} {ty : FieldType} {a : Addr} {v v' old : Value} (hd : decode B pc = .ok (.putfield ix, 3)) (w : tables_1[i]? = some (.fieldLink y.cls ix O n d))
    (w2 : tables_1[i2]? = some (.lays C O n d) ∨ (tables_1[i2]? = some (.laysFinal C O n d) ∧ y.cls = O ∧ y.name = "<init>")) (w3 : tables_1[i3]? = some (.instantiable C kk))
    (F : Fld Z h a O n d old) (E : Exa Z h a C) (hty : parseFieldDescriptor d = some ty) (hn : narrow ty v = v') (hfit : fits ty v' = true) (hf : a ∈ fs) (hp : pc + 3 = pc')
    (K : ∀ h', Wr h h' a (Jvm.RoadKit.slotOf Z O n d) v' → Wq l nw Z EL a0 n0 y B ml ret R h0 Post fs h' ce sl pc' L S) : Wq l nw Z EL a0 n0 y B ml ret R h0 Post fs h ce sl pc L (v :: .ref a :: S) :=
  wrote (fun hx hby hown hnm hZ hw hT X => by subst hp; exact putFN X hx hZ hown (wat hw w) Via.refl hT F E (w2.imp (fun q => wat hw q) fun q => ⟨wat hw q.1, q.2.1, hnm.trans q.2.2⟩) (wat hw w3) hty hn hfit (g := mkF _ pc L (v :: .ref a :: S)) rfl rfl (Jvm.hb hby hd))
    hf K
theorem new {i i2 i3 ix n : Nat} {C : String} (hd : decode B pc = .ok (.new ix, 3)) (w : tables_1[i]? = some (.classLink y.cls ix C)) (w2 : tables_1[i2]? = some (.instantiable C n)) (w3 : tables_1[i3]? = some (.initialized C)) (hc : ce + 1 ≤ R.cells) (hs : sl + n ≤ R.slots) (hp : pc + 3 = pc')
    (K : ∀ h' a, a = h.size → Ext h h' → Exa Z h' a C → (∀ {O nm d : String} {ty : FieldType}, Laid Z a0 C O nm d → parseFieldDescriptor d = some ty → Fld Z h' a O nm d (defaultValue ty)) → Wq l nw Z EL a0 n0 y B ml ret R h0 Post (a :: fs) h' (ce + 1) (sl + n) pc' L (.ref a :: S)) : Wq l nw Z EL a0 n0 y B ml ret R h0 Post fs h ce sl pc L S :=
  grow (P := fun h' => Exa Z h' h.size C ∧ (∀ {O nm d : String} {ty : FieldType}, Laid Z a0 C O nm d → parseFieldDescriptor d = some ty → Fld Z h' h.size O nm d (defaultValue ty))) (fun hx hby hown hZ hw hT _ X => by
    subst hp
    obtain ⟨T', h', X', e', E, A, D, -, st⟩ := newO X hx hZ hown (wat hw w) (wat hw w2) (wat hw w3) hT (g := mkF _ pc L S) rfl (Jvm.hb hby hd) hc hs
    exact ⟨T', h', X', e', E, ⟨A, D⟩, st⟩) (fs' := h.size :: fs) (fun x q => (List.mem_cons.mp q).symm) (fun h' _ q => q.1.lt) (fun h' E q => K h' _ rfl E q.1 q.2)
theorem newarray {i cap : Nat} {aty : ArrayType} {ty : FieldType} {z : Int32} (hd : decode B pc = .ok (.newarray aty, 2)) (hty : newarray.typeOf aty = ty) (w : tables_1[i]? = some (.arrayClass ty)) (hz : ¬ z < 0) (hcap : z.toNatClampNeg ≤ cap) (hb8 : cap * 8 ≤ 536870912) (hc : ce + 1 ≤ R.cells) (hs : sl + cap ≤ R.slots) (hp : pc + 2 = pc')
    (K : ∀ h' a kc, a = h.size → Ext h h' → Arv Z h' a kc ty z [] (defaultValue ty) → Wq l nw Z EL a0 n0 y B ml ret R h0 Post (a :: fs) h' (ce + 1) (sl + cap) pc' L (.ref a :: S)) : Wq l nw Z EL a0 n0 y B ml ret R h0 Post fs h ce sl pc L (.int z :: S) :=
  grow (P := fun h' => ∃ kc, Arv Z h' h.size kc ty z [] (defaultValue ty)) (fun hx hby hown hZ hw hT _ X => by
    subst hp hty
    obtain ⟨T', h', kc, X', e', E, A, st⟩ := newP X hx hZ (wat hw w) hT (g := mkF _ pc L (.int z :: S)) rfl (Jvm.hb hby hd) rfl hz hcap hb8 hc hs
    exact ⟨T', h', X', e', E, ⟨kc, Arv.new A hz⟩, st⟩) (fs' := h.size :: fs) (fun x q => (List.mem_cons.mp q).symm) (fun h' _ q => q.elim fun kc r => r.lt) (fun h' E q => q.elim fun kc r => K h' _ kc rfl E r)
theorem arraylength {a : Addr} {kc : ClassId} {ty : FieldType} {z : Int32} {vs : List Value} {dv : Value} (hd : decode B pc = .ok (.arraylength, 1)) (F : Arv Z h a kc ty z vs dv) (hp : pc + 1 = pc') (K : Wq l nw Z EL a0 n0 y B ml ret R h0 Post fs h ce sl pc' L (.int z :: S)) : Wq l nw Z EL a0 n0 y B ml ret R h0 Post fs h ce sl pc L (.ref a :: S) :=
  same (fun {p e s m args below meth c T locs} hx hby hown hZ hw hT _ X => by
    subst hp
    obtain ⟨cl, A, -, hsz, hz, -⟩ := F
    refine ⟨T, X, hT, fun u q => X.arraylength hx (by rw [hT]; exact A.1) (State.isArrayOf_alike hZ.alike A.2.1) (g := mkF _ pc L (.ref a :: S)) rfl rfl (Jvm.hb hby hd) u ?_⟩
    rw [len_of hsz hz]; exact q) K
theorem iaload {a : Addr} {kc : ClassId} {z j : Int32} {vs : List Value} {dv v : Value} (hd : decode B pc = .ok (.iaload, 1)) (F : Arv Z h a kc .int z vs dv) (hj : ¬ j < 0 ∧ j < z) (hv : vs.getD j.toNatClampNeg dv = v) (hp : pc + 1 = pc') (K : Wq l nw Z EL a0 n0 y B ml ret R h0 Post fs h ce sl pc' L (v :: S)) : Wq l nw Z EL a0 n0 y B ml ret R h0 Post fs h ce sl pc L (.int j :: .ref a :: S) :=
  same (fun {p e s m args below meth c T locs} hx hby hown hZ hw hT _ X => by
    subst hp
    obtain ⟨cl, A, -, hsz, hz, hH, -⟩ := F
    have hin := inb_of hsz hj
    exact ⟨T, X, hT, fun u q => X.iaload hx (by rw [hT]; exact A.1) (State.isArrayOf_alike hZ.alike A.2.1) A.2.2 hin (hH.at hin hv) (g := mkF _ pc L (.int j :: .ref a :: S)) rfl rfl (Jvm.hb hby hd) u q⟩) K
theorem caload {a : Addr} {kc : ClassId} {z j : Int32} {vs : List Value} {dv v : Value} (hd : decode B pc = .ok (.caload, 1)) (F : Arv Z h a kc .char z vs dv) (hj : ¬ j < 0 ∧ j < z) (hv : vs.getD j.toNatClampNeg dv = v) (hp : pc + 1 = pc') (K : Wq l nw Z EL a0 n0 y B ml ret R h0 Post fs h ce sl pc' L (v :: S)) : Wq l nw Z EL a0 n0 y B ml ret R h0 Post fs h ce sl pc L (.int j :: .ref a :: S) :=
  same (fun {p e s m args below meth c T locs} hx hby hown hZ hw hT _ X => by
    subst hp
    obtain ⟨cl, A, -, hsz, hz, hH, -⟩ := F
    have hin := inb_of hsz hj
    exact ⟨T, X, hT, fun u q => X.caload hx (by rw [hT]; exact A.1) (State.isArrayOf_alike hZ.alike A.2.1) A.2.2 hin (hH.at hin hv) (g := mkF _ pc L (.int j :: .ref a :: S)) rfl rfl (Jvm.hb hby hd) u q⟩) K
theorem baload {a : Addr} {kc : ClassId} {z j : Int32} {vs : List Value} {dv v : Value} (hd : decode B pc = .ok (.baload, 1)) (F : Arv Z h a kc .byte z vs dv) (hj : ¬ j < 0 ∧ j < z) (hv : vs.getD j.toNatClampNeg dv = v) (hp : pc + 1 = pc') (K : Wq l nw Z EL a0 n0 y B ml ret R h0 Post fs h ce sl pc' L (v :: S)) : Wq l nw Z EL a0 n0 y B ml ret R h0 Post fs h ce sl pc L (.int j :: .ref a :: S) :=
  same (fun {p e s m args below meth c T locs} hx hby hown hZ hw hT _ X => by
    subst hp
    obtain ⟨cl, A, -, hsz, hz, hH, -⟩ := F
    have hin := inb_of hsz hj
    exact ⟨T, X, hT, fun u q => X.baloadBytes hx (by rw [hT]; exact A.1) (State.isArrayOf_alike hZ.alike A.2.1) A.2.2 hin (hH.at hin hv) (g := mkF _ pc L (.int j :: .ref a :: S)) rfl rfl (Jvm.hb hby hd) u q⟩) K
theorem laload {a : Addr} {kc : ClassId} {z j : Int32} {vs : List Value} {dv v : Value} (hd : decode B pc = .ok (.laload, 1)) (F : Arv Z h a kc .long z vs dv) (hj : ¬ j < 0 ∧ j < z) (hv : vs.getD j.toNatClampNeg dv = v) (hp : pc + 1 = pc') (K : Wq l nw Z EL a0 n0 y B ml ret R h0 Post fs h ce sl pc' L (v :: S)) : Wq l nw Z EL a0 n0 y B ml ret R h0 Post fs h ce sl pc L (.int j :: .ref a :: S) :=
  same (fun {p e s m args below meth c T locs} hx hby hown hZ hw hT _ X => by
    subst hp
    obtain ⟨cl, A, -, hsz, hz, hH, -⟩ := F
    have hin := inb_of hsz hj
    exact ⟨T, X, hT, fun u q => X.laload hx (by rw [hT]; exact A.1) (State.isArrayOf_alike hZ.alike A.2.1) A.2.2 hin (hH.at hin hv) (g := mkF _ pc L (.int j :: .ref a :: S)) rfl rfl (Jvm.hb hby hd) u q⟩) K
theorem aaload {a : Addr} {kc : ClassId} {ty : FieldType} {z j : Int32} {vs : List Value} {dv v : Value} (hd : decode B pc = .ok (.aaload, 1)) (hty : ty.isReference = true) (F : Arv Z h a kc ty z vs dv) (hj : ¬ j < 0 ∧ j < z) (hv : vs.getD j.toNatClampNeg dv = v) (hp : pc + 1 = pc') (K : Wq l nw Z EL a0 n0 y B ml ret R h0 Post fs h ce sl pc' L (v :: S)) : Wq l nw Z EL a0 n0 y B ml ret R h0 Post fs h ce sl pc L (.int j :: .ref a :: S) :=
  same (fun {p e s m args below meth c T locs} hx hby hown hZ hw hT _ X => by
    subst hp
    obtain ⟨cl, A, -, hsz, hz, hH, -⟩ := F
    have hin := inb_of hsz hj
    exact ⟨T, X, hT, fun u q => X.aaload hx (by rw [hT]; exact A.1) (State.isArrayOf_alike hZ.alike A.2.1) hty A.2.2 hin (hH.at hin hv) (g := mkF _ pc L (.int j :: .ref a :: S)) rfl rfl (Jvm.hb hby hd) u q⟩) K
theorem castore {a : Addr} {kc : ClassId} {z j x : Int32} {vs : List Value} {dv : Value} (hd : decode B pc = .ok (.castore, 1)) (F : Arv Z h a kc .char z vs dv) (hj : ¬ j < 0 ∧ j < z) (hf : a ∈ fs) (hl : j.toNatClampNeg < vs.length) (hp : pc + 1 = pc')
    (K : ∀ h', Wr h h' a j.toNatClampNeg (.int (nar .char x)) → Arv Z h' a kc .char z (vs.set j.toNatClampNeg (.int (nar .char x))) dv → Wq l nw Z EL a0 n0 y B ml ret R h0 Post fs h' ce sl pc' L S) : Wq l nw Z EL a0 n0 y B ml ret R h0 Post fs h ce sl pc L (.int x :: .int j :: .ref a :: S) := by
  obtain ⟨cl, A, q1, hsz, hz, hH, hG⟩ := F
  have hin := inb_of hsz hj
  exact wrote (fun hx hby hown hnm hZ hw hT X => by subst hp; exact stC X hx hZ hT A hin (g := mkF _ pc L (.int x :: .int j :: .ref a :: S)) rfl rfl (Jvm.hb hby hd))
    hf (fun h' W' => K h' W' (Arv.set A q1 hsz hz hH hG (fits_nar_char _) W' _ rfl hl))
theorem bastore {a : Addr} {kc : ClassId} {z j x : Int32} {vs : List Value} {dv : Value} (hd : decode B pc = .ok (.bastore, 1)) (F : Arv Z h a kc .byte z vs dv) (hj : ¬ j < 0 ∧ j < z) (hf : a ∈ fs) (hl : j.toNatClampNeg < vs.length) (hp : pc + 1 = pc')
    (K : ∀ h', Wr h h' a j.toNatClampNeg (.int (nar .byte x)) → Arv Z h' a kc .byte z (vs.set j.toNatClampNeg (.int (nar .byte x))) dv → Wq l nw Z EL a0 n0 y B ml ret R h0 Post fs h' ce sl pc' L S) : Wq l nw Z EL a0 n0 y B ml ret R h0 Post fs h ce sl pc L (.int x :: .int j :: .ref a :: S) := by
  obtain ⟨cl, A, q1, hsz, hz, hH, hG⟩ := F
  have hin := inb_of hsz hj
  exact wrote (fun hx hby hown hnm hZ hw hT X => by subst hp; exact stB X hx hZ hT A hin (g := mkF _ pc L (.int x :: .int j :: .ref a :: S)) rfl rfl (Jvm.hb hby hd))
    hf (fun h' W' => K h' W' (Arv.set A q1 hsz hz hH hG (fits_nar_byte _) W' _ rfl hl))
theorem iastore {a : Addr} {kc : ClassId} {z j x : Int32} {vs : List Value} {dv : Value} (hd : decode B pc = .ok (.iastore, 1)) (F : Arv Z h a kc .int z vs dv) (hj : ¬ j < 0 ∧ j < z) (hf : a ∈ fs) (hl : j.toNatClampNeg < vs.length) (hp : pc + 1 = pc')
    (K : ∀ h', Wr h h' a j.toNatClampNeg (.int x) → Arv Z h' a kc .int z (vs.set j.toNatClampNeg (.int x)) dv → Wq l nw Z EL a0 n0 y B ml ret R h0 Post fs h' ce sl pc' L S) : Wq l nw Z EL a0 n0 y B ml ret R h0 Post fs h ce sl pc L (.int x :: .int j :: .ref a :: S) := by
  obtain ⟨cl, A, q1, hsz, hz, hH, hG⟩ := F
  have hin := inb_of hsz hj
  exact wrote (fun hx hby hown hnm hZ hw hT X => by subst hp; exact stI X hx hZ hT A hin (g := mkF _ pc L (.int x :: .int j :: .ref a :: S)) rfl rfl (Jvm.hb hby hd))
    hf (fun h' W' => K h' W' (Arv.set A q1 hsz hz hH hG (rfl) W' _ rfl hl))
theorem cloneArr {i1 i2 i3 i4 i5 i6 ix Wd cap : Nat} {ad : String} {a : Addr} {kc : ClassId} {ty : FieldType} {z : Int32} {vs : List Value} {dv : Value} (hd : decode B pc = .ok (.invokevirtual ix, 3)) (w1 : tables_1[i1]? = some (.methodLink y.cls ix ⟨ad, "clone", "()Ljava/lang/Object;"⟩)) (w2 : tables_1[i2]? = some (.sameMethod ad "java/lang/Object" "clone" "()Ljava/lang/Object;")) (w3 : tables_1[i3]? = some (.native ⟨"java/lang/Object", "clone", "()Ljava/lang/Object;"⟩)) (w4 : tables_1[i4]? = some (.instanceMethod ⟨"java/lang/Object", "clone", "()Ljava/lang/Object;"⟩)) (w5 : tables_1[i5]? = some (.selects ad ⟨ad, "clone", "()Ljava/lang/Object;"⟩ ⟨"java/lang/Object", "clone", "()Ljava/lang/Object;"⟩)) (w6 : tables_1[i6]? = some (.castable ad "java/lang/Cloneable"))
    (F : Arv Z h a kc ty z vs dv) (E : Exa Z h a ad) (hsz : L.size = ml) (hfr : 1 ≤ R.frames) (hW : (S.map fun v => v.category).sum ≤ Wd) (hl : Wd + 14 ≤ R.locals) (hcap : z.toNatClampNeg ≤ cap) (hc : ce + 1 ≤ R.cells) (hs : sl + cap ≤ R.slots) (hp : pc + 3 = pc')
    (K : ∀ h' r, r = h.size → Ext h h' → Arv Z h' r kc ty z vs dv → Exa Z h' r ad → Wq l nw Z EL a0 n0 y B ml ret R h0 Post (r :: fs) h' (ce + 1) (sl + cap) pc' L (.ref r :: S)) : Wq l nw Z EL a0 n0 y B ml ret R h0 Post fs h ce sl pc L (.ref a :: S) :=
  grow (P := fun h' => Arv Z h' h.size kc ty z vs dv ∧ Exa Z h' h.size ad) (fun hx hby hown hZ hw hT hml X => by
    subst hp
    obtain ⟨T', h', X', e', Ex, A, E', st⟩ := cloneH X hx hZ hown (wat hw w1) (wat hw w2) (wat hw w3) (wat hw w4) (wat hw w5) (wat hw w6) hT F.arh E (g := mkF _ pc L (.ref a :: S)) rfl (hsz.trans hml.symm) rfl (Jvm.hb hby hd) hfr (W := Wd) (by show 2 * 0 + _ ≤ _; omega) hl hcap hc hs
    exact ⟨T', h', X', e', Ex, ⟨A, E'⟩, st⟩) (fs' := h.size :: fs) (fun x q => (List.mem_cons.mp q).symm) (fun h' _ q => q.1.lt) (fun h' Ex q => K h' _ rfl Ex q.1 q.2)
theorem checkcast {i ix : Nat} {C : String} {a : Addr} (hd : decode B pc = .ok (.checkcast ix, 3)) (w : tables_1[i]? = some (.classLink y.cls ix C)) (F : Ins Z h a C true) (hp : pc + 3 = pc') (K : Wq l nw Z EL a0 n0 y B ml ret R h0 Post fs h ce sl pc' L (.ref a :: S)) : Wq l nw Z EL a0 n0 y B ml ret R h0 Post fs h ce sl pc L (.ref a :: S) :=
  same (fun hx hby hown hZ hw hT _ X => by subst hp; exact castY X hx hZ hown (wat hw w) hT F (g := mkF _ pc L (.ref a :: S)) rfl rfl (Jvm.hb hby hd)) K
theorem checkcastNull {ix : Nat} (hd : decode B pc = .ok (.checkcast ix, 3)) (hp : pc + 3 = pc') (K : Wq l nw Z EL a0 n0 y B ml ret R h0 Post fs h ce sl pc' L (.null :: S)) : Wq l nw Z EL a0 n0 y B ml ret R h0 Post fs h ce sl pc L (.null :: S) :=
  same (fun {p e s m args below meth c T locs} hx hby hown hZ hw hT _ X => by subst hp; exact ⟨T, X, hT, X.checkcastNull hx (g := mkF _ pc L (.null :: S)) rfl rfl (Jvm.hb hby hd)⟩) K
theorem instanceofNull {ix : Nat} (hd : decode B pc = .ok (.instanceof ix, 3)) (hp : pc + 3 = pc') (K : Wq l nw Z EL a0 n0 y B ml ret R h0 Post fs h ce sl pc' L (.int 0 :: S)) : Wq l nw Z EL a0 n0 y B ml ret R h0 Post fs h ce sl pc L (.null :: S) :=
  same (fun {p e s m args below meth c T locs} hx hby hown hZ hw hT _ X => by subst hp; exact ⟨T, X, hT, X.instanceofNull hx (g := mkF _ pc L (.null :: S)) rfl rfl (Jvm.hb hby hd)⟩) K
theorem instanceofY {i ix : Nat} {C : String} {a : Addr} (hd : decode B pc = .ok (.instanceof ix, 3)) (w : tables_1[i]? = some (.classLink y.cls ix C)) (F : Ins Z h a C true) (hp : pc + 3 = pc') (K : Wq l nw Z EL a0 n0 y B ml ret R h0 Post fs h ce sl pc' L (.int 1 :: S)) : Wq l nw Z EL a0 n0 y B ml ret R h0 Post fs h ce sl pc L (.ref a :: S) :=
  same (fun hx hby hown hZ hw hT _ X => by subst hp; exact instY X hx hZ hown (wat hw w) hT F (g := mkF _ pc L (.ref a :: S)) rfl rfl (Jvm.hb hby hd)) K
theorem instanceofN {i ix : Nat} {C D : String} {a : Addr} (hd : decode B pc = .ok (.instanceof ix, 3)) (w : tables_1[i]? = some (.classLink y.cls ix C)) (E : Exa Z h a D) (F : ∃ c t, Z.vm.findClass D = some c ∧ Z.vm.findClass C = some t ∧ Z.vm.assignable c t = false) (hp : pc + 3 = pc') (K : Wq l nw Z EL a0 n0 y B ml ret R h0 Post fs h ce sl pc' L (.int 0 :: S)) : Wq l nw Z EL a0 n0 y B ml ret R h0 Post fs h ce sl pc L (.ref a :: S) :=
  same (fun hx hby hown hZ hw hT _ X => by subst hp; exact instNo X hx hZ hown (wat hw w) hT E F (g := mkF _ pc L (.ref a :: S)) rfl rfl (Jvm.hb hby hd)) K
theorem ldcInt {i ix : Nat} {v : Int32} (hd : decode B pc = .ok (.ldc ix, 2)) (w : tables_1[i]? = some (.constant y.cls ix v)) (hp : pc + 2 = pc') (K : Wq l nw Z EL a0 n0 y B ml ret R h0 Post fs h ce sl pc' L (.int v :: S)) : Wq l nw Z EL a0 n0 y B ml ret R h0 Post fs h ce sl pc L S :=
  same (fun {p e s m args below meth c T locs} hx hby hown hZ hw hT _ X => by subst hp; exact ⟨T, X, hT, X.ldcInt hx hown (mvT hZ (wat hw w)) (g := mkF _ pc L S) rfl (Jvm.hb hby hd)⟩) K
theorem ldc2Long {i ix : Nat} {v : Int64} (hd : decode B pc = .ok (.ldc2_w ix, 3)) (w : tables_1[i]? = some (.constantLong y.cls ix v)) (hp : pc + 3 = pc') (K : Wq l nw Z EL a0 n0 y B ml ret R h0 Post fs h ce sl pc' L (.long v :: S)) : Wq l nw Z EL a0 n0 y B ml ret R h0 Post fs h ce sl pc L S :=
  same (fun {p e s m args below meth c T locs} hx hby hown hZ hw hT _ X => by subst hp; exact ⟨T, X, hT, X.ldc2Long hx hown (mvT hZ (wat hw w)) (g := mkF _ pc L S) rfl (Jvm.hb hby hd)⟩) K
theorem ldc2Double {i ix : Nat} {v : UInt64} (hd : decode B pc = .ok (.ldc2_w ix, 3)) (w : tables_1[i]? = some (.constantDouble y.cls ix v)) (hp : pc + 3 = pc') (K : Wq l nw Z EL a0 n0 y B ml ret R h0 Post fs h ce sl pc' L (.double v :: S)) : Wq l nw Z EL a0 n0 y B ml ret R h0 Post fs h ce sl pc L S :=
  same (fun {p e s m args below meth c T locs} hx hby hown hZ hw hT _ X => by subst hp; exact ⟨T, X, hT, X.ldc2DoubleC hx hown (mvT hZ (wat hw w)) (g := mkF _ pc L S) rfl (Jvm.hb hby hd)⟩) K
theorem initObj {i i2 i3 ix Wd : Nat} {a : Addr} (hd : decode B pc = .ok (.invokespecial ix, 3)) (w : tables_1[i]? = some (.methodLink y.cls ix Lib.objectInit)) (w2 : tables_1[i2]? = some (.instanceMethod Lib.objectInit)) (w3 : tables_1[i3]? = some (.code Lib.objectInit object_method_1_code 1 none))
    (hsz : L.size = ml) (hfr : 1 ≤ R.frames) (hW : (S.map fun v => v.category).sum ≤ Wd) (hl : Wd + 12 ≤ R.locals) (hp : pc + 3 = pc') (K : Wq l nw Z EL a0 n0 y B ml ret R h0 Post fs h ce sl pc' L S) : Wq l nw Z EL a0 n0 y B ml ret R h0 Post fs h ce sl pc L (.ref a :: S) :=
  same (fun {p e s m args below meth c T locs} hx hby hown hZ hw hT hml X => by
    subst hp
    exact initO X hx hZ hown (wat hw w) (wat hw w2) (wat hw w3) hT (g := mkF _ pc L (.ref a :: S)) rfl (hsz.trans hml.symm) rfl (Jvm.hb hby hd) hfr (W := Wd) (by show 2 * 0 + _ ≤ _; omega) hl) K
/-- ldc of a String constant that EL names, its text read -/
theorem ldcStr {i ix n : Nat} {text : String} {vs : List Value} {z : Int32} (hd : decode B pc = .ok (.ldc ix, 2)) (w : tables_1[i]? = some (.stringLink y.cls ix text)) (hwS : ∀ d ∈ Bundle.stringAtoms, d ∈ tables_1) (hmem : (y.cls, ix) ∈ EL) (hnn : nw = false)
    (ht : (∀ c ∈ text.toList, c.toNat < 256) ∧ text.toList.map (fun c => Value.int (Jvm.Lit.byteI c.toNat.toUInt16)) = vs) (hz : ¬ z < 0) (hl : z.toNatClampNeg = vs.length) (hn : 4 * text.toList.length ≤ n) (hbig : n ≤ 536870912) (hc : ce + 2 ≤ R.cells) (hs : sl + (n + 4) ≤ R.slots) (hp : pc + 2 = pc')
    (K : ∀ h' a b kc, Ext h h' → Exa Z h' a "java/lang/String" → Fld Z h' a "java/lang/String" "coder" "B" (.int 0) → Fld Z h' a "java/lang/String" "value" "[B" (.ref b) → Arv Z h' b kc .byte z vs (.int 0) → (∀ x ∈ fs, x ≠ a ∧ x ≠ b) → Wq l nw Z EL a0 n0 y B ml ret R h0 Post fs h' (ce + 2) (sl + (n + 4)) pc' L (.ref a :: S)) : Wq l nw Z EL a0 n0 y B ml ret R h0 Post fs h ce sl pc L S := fun p e s m args below meth c T locs vm k C => by
  obtain ⟨⟨hx, hby, hml, hret, hlk, hnm, hown, hh0⟩, ⟨hZ, hw, hEL, hnw⟩, X, hT, ⟨hN, hO⟩, ⟨hS, hk⟩, hC, hF⟩ := C
  subst hp
  obtain ⟨a, T', h', k1, b, kc, X', e', E, hS', hk', hZ', hown', A, Co, Va, Ar, -, -, hC', -, hne, st⟩ := ldcCH X hx hZ hown (wat hw w) (fun d q => hw d (hwS d q)) hT hS hk hEL hmem hC.1 ht hz hl (g := mkF _ pc L S) rfl (Jvm.hb hby hd) hn hbig hc hs
  refine (K h' a b kc E A Co Va Ar (fun x r => hne x (hC'.safe (hF x r).2.1 (hF x r).2.2)) p e s m args below meth c T' locs T'.vm k1 ⟨⟨hx, hby, hml, hret, hlk, hnm, hown', hh0⟩, ⟨hZ', hw, hEL, fun q => by rw [hnn] at q; cases q⟩, X', e', ⟨hN, hO.ext E⟩, ⟨hS', hk'⟩, hC.trans hC', fun x r => ⟨(hF x r).1, Nat.lt_of_lt_of_le (hF x r).2.1 E.1, hC'.safe (hF x r).2.1 (hF x r).2.2⟩⟩).st st
/-- ldc of any String constant, nothing said of its text -/
theorem ldcAny {i ix n : Nat} {text : String} (hd : decode B pc = .ok (.ldc ix, 2)) (w : tables_1[i]? = some (.stringLink y.cls ix text)) (hwS : ∀ d ∈ Bundle.stringAtoms, d ∈ tables_1) (hnn : nw = false)
    (hn : 4 * text.toList.length ≤ n) (hbig : n ≤ 536870912) (hc : ce + 2 ≤ R.cells) (hs : sl + (n + 4) ≤ R.slots) (hp : pc + 2 = pc')
    (K : ∀ h' a, Ext h h' → Wq l nw Z EL a0 n0 y B ml ret R h0 Post fs h' (ce + 2) (sl + (n + 4)) pc' L (.ref a :: S)) : Wq l nw Z EL a0 n0 y B ml ret R h0 Post fs h ce sl pc L S := fun p e s m args below meth c T locs vm k C => by
  obtain ⟨⟨hx, hby, hml, hret, hlk, hnm, hown, hh0⟩, ⟨hZ, hw, hEL, hnw⟩, X, hT, ⟨hN, hO⟩, ⟨hS, hk⟩, hC, hF⟩ := C
  subst hp
  obtain ⟨a, T', h', k1, X', e', E, hS', hk', hZ', hown', hC', -, st⟩ := ldcOH X hx hZ hown (wat hw w) (fun d q => hw d (hwS d q)) hT hS hk hEL hC.1 (g := mkF _ pc L S) rfl (Jvm.hb hby hd) hn hbig hc hs
  refine (K h' a E p e s m args below meth c T' locs T'.vm k1 ⟨⟨hx, hby, hml, hret, hlk, hnm, hown', hh0⟩, ⟨hZ', hw, hEL, fun q => by rw [hnn] at q; cases q⟩, X', e', ⟨hN, hO.ext E⟩, ⟨hS', hk'⟩, hC.trans hC', fun x r => ⟨(hF x r).1, Nat.lt_of_lt_of_le (hF x r).2.1 E.1, hC'.safe (hF x r).2.1 (hF x r).2.2⟩⟩).st st
/-- the end of a walk -/
theorem leaves {v : Option Value} (hv : ret = none → v = none) (hc : ce ≤ R.cells) (hs : sl ≤ R.slots) (hP : Post v h) (st : ∀ {p : Program} {e : Env} {s : State} {m : MethodId} {args : Array Value} {below : List Frame} {meth : Method} {c : Code} {T : State} {locs : List Loc} {fs : List Frame}, p.tables.exec = Jvm.exec → c.code = B → meth.sig.returnType = ret →
      Stand p l e R s m args below meth c T locs ce sl → (∀ (f : JFrame) (acts : List Action), f.method = m → f.locked = none → f.entered = [] → (doReturn e (T.setTop f) acts v).1 = T.setFrames fs) → Steps p.tables e below (T.setTop (mkF m pc L S)) (T.setFrames fs)) : Wq l nw Z EL a0 n0 y B ml ret R h0 Post fs h ce sl pc L S := fun p e s m args below meth c T locs vm k C => by
  obtain ⟨⟨hx, hby, hml, hret, hlk, hnm, hown, hh0⟩, ⟨hZ, hw, hEL, hnw⟩, X, hT, ⟨hN, hO⟩, ⟨hS, hk⟩, hC, hF⟩ := C
  obtain ⟨fs', h1, h2, h3, hEnd⟩ := X.leaveW hS (by rw [hT]; exact hk) (v := v) (fun q => hv (hret.symm.trans q)) hlk
  have hwm : (s.setVm vm).WarmedH T.vm := X.warmed
  refine ⟨T.setFrames fs', .returned v, st hx hby hret X h1, h2, h3, v, locs, rfl, ?_, ⟨hN, ?_⟩, ?_, ⟨hEnd.1, hEnd.2.1, hEnd.2.2.1, hEnd.2.2.2.mono hc hs⟩, fun q => ?_⟩
  · show Post v T.heap
    rw [hT]; exact hP
  · show Old Z n0 T.heap
    rw [hT]; exact hO
  · show CHr Z EL s.vm h0 T.vm T.heap
    rw [hT]; exact hC.trans (CHv.at X hZ hEL hC.1)
  · show s.WarmedH T.vm
    obtain ⟨q1, -⟩ := hnw q
    subst q1; exact hwm
theorem retV (hd : decode B pc = .ok (.return_, 1)) (hr : ret = none) (hc : ce ≤ R.cells) (hs : sl ≤ R.slots) (hP : Post none h) : Wq l nw Z EL a0 n0 y B ml ret R h0 Post fs h ce sl pc L [] :=
  leaves (fun _ => rfl) hc hs hP (fun hx hby hret X hl => X.returnOut hx (hret.trans hr) (Jvm.hb hby hd) hl)
theorem retA {v : Value} {t : FieldType} (hd : decode B pc = .ok (.areturn, 1)) (hr : ret = some t) (ht : t.isReference = true) (hv : v.isRef = true) (hc : ce ≤ R.cells) (hs : sl ≤ R.slots) (hP : Post (some v) h) : Wq l nw Z EL a0 n0 y B ml ret R h0 Post fs h ce sl pc L (v :: S) :=
  leaves (fun q => by rw [hr] at q; cases q) hc hs hP (fun hx hby hret X hl => retOut X hx (hret.trans hr) (by rcases ref_cases hv with rfl | ⟨q, rfl⟩ <;> cases t <;> rfl) (Or.inr (Or.inr (Or.inr (Or.inr ⟨rfl, ht, hv⟩)))) (Jvm.hb hby hd) hl)
theorem retI {z : Int32} {t : FieldType} (hd : decode B pc = .ok (.ireturn, 1)) (hr : ret = some t) (ht : t = .int ∨ t = .boolean ∨ t = .byte ∨ t = .char ∨ t = .short) (hn : narrow t (.int z) = .int z) (hc : ce ≤ R.cells) (hs : sl ≤ R.slots) (hP : Post (some (.int z)) h) : Wq l nw Z EL a0 n0 y B ml ret R h0 Post fs h ce sl pc L (.int z :: S) :=
  leaves (fun q => by rw [hr] at q; cases q) hc hs hP (fun hx hby hret X hl => retOut X hx (hret.trans hr) hn (Or.inl ⟨rfl, ht, z, rfl⟩) (Jvm.hb hby hd) hl)
theorem retJ {z : Int64} (hd : decode B pc = .ok (.lreturn, 1)) (hr : ret = some .long) (hc : ce ≤ R.cells) (hs : sl ≤ R.slots) (hP : Post (some (.long z)) h) : Wq l nw Z EL a0 n0 y B ml ret R h0 Post fs h ce sl pc L (.long z :: S) :=
  leaves (fun q => by rw [hr] at q; cases q) hc hs hP (fun hx hby hret X hl => retOut X hx (hret.trans hr) rfl (Or.inr (Or.inl ⟨rfl, rfl, z, rfl⟩)) (Jvm.hb hby hd) hl)
theorem retD {z : UInt64} (hd : decode B pc = .ok (.dreturn, 1)) (hr : ret = some .double) (hc : ce ≤ R.cells) (hs : sl ≤ R.slots) (hP : Post (some (.double z)) h) : Wq l nw Z EL a0 n0 y B ml ret R h0 Post fs h ce sl pc L (.double z :: S) :=
  leaves (fun q => by rw [hr] at q; cases q) hc hs hP (fun hx hby hret X hl => retOut X hx (hret.trans hr) rfl (Or.inr (Or.inr (Or.inl ⟨rfl, rfl, z, rfl⟩))) (Jvm.hb hby hd) hl)
end Rules
section Calls
variable {l : Launch} {nw : Bool} {Z : State} {EL : List (String × Nat)} {a0 : Array Value} {n0 : Nat} {y : MethodName} {B : ByteArray} {ml : Nat} {ret : Option FieldType} {R : Room} {h0 : Heap} {Post : Option Value → Heap → Prop} {fs : List Addr} {h : Heap} {ce sl pc pc' : Nat} {L : Array Slot} {S : List Value}
def Met (l : Launch) (nw : Bool) (Z : State) (EL : List (String × Nat)) (n0 : Nat) (y : MethodName) (B : ByteArray) (ml : Nat) (ret : Option FieldType) (R : Room) (ws : List Jvm.Cond) (as' : Array Value) (fs : List Addr) (h : Heap) (Post : Option Value → Heap → Prop) : Prop :=
  MetFree l y (head1 (Jvm.Cond.code y B ml ret :: ws) R) (fun a U => a = as' ∧ Z.Warmed39 U.vm ∧ U.heap = h ∧ CHv Z EL U.vm h ∧ Old Z n0 h ∧ ∀ x ∈ fs, n0 ≤ x ∧ x < h.size ∧ Safe Z EL U.vm h x) (fun _ _ _ _ _ => True)
    (fun _ U o U' => ∃ v L, o = .returned v ∧ (Post v U'.heap ∧ Fr n0 L ∧ Old Z n0 U'.heap) ∧ CHr Z EL U.vm U.heap U'.vm U'.heap ∧ ReturnedEndW U o U' L R.cells R.slots ∧ (nw = true → U.WarmedH U'.vm))
theorem Met.mono {ws : List Jvm.Cond} {as' : Array Value} {Post' : Option Value → Heap → Prop} (M : Met l nw Z EL n0 y B ml ret R ws as' fs h Post) (hP : ∀ v h', Post v h' → Post' v h') : Met l nw Z EL n0 y B ml ret R ws as' fs h Post' :=
  MetFree.mono M (fun _ _ q => q) (fun _ _ _ _ _ q => q) (fun _ _ _ _ _ ⟨v, L, h1, ⟨h2, h3⟩, h4⟩ => ⟨v, L, h1, ⟨hP v _ h2, h3⟩, h4⟩)
theorem Met.of_body {ws : List Jvm.Cond} {as' : Array Value} {L0 : Array Slot} (hpl : plainFor y = true) (hent : ∀ m, entryFrame m as' ml = mkF m 0 L0 []) (hw : ∀ d ∈ tables_1, d.before a0 Z = true) (hEL : EW Z a0 EL) (hnw : nw = true → EL = [])
    (K : Wq l nw Z EL a0 n0 y B ml ret R h Post fs h 0 0 0 L0 []) : Met l nw Z EL n0 y B ml ret R ws as' fs h Post := by
  refine MetFree.of_bodySF hpl hisR ?_
  intro p e s m args below meth c s₁ Bd hml0 hP hK
  obtain ⟨rfl, hZ, hh, hCv, hO, hF⟩ := hP
  have X0 : Stand p l e R (s.setVm s.vm) m args below meth c s₁ [] 0 0 := Stand.of_body Bd
  have e0 : s₁.heap = h := by rw [← hh, Bd.state]; rfl
  have hml : c.maxLocals = ml := hml0
  obtain ⟨s₂, o, h1, h2, h3, v, L, h4, h5, h6, h7, h8, h9⟩ := K p e s m args below meth c s₁ [] s.vm 0 ⟨⟨Bd.exec, Bd.bytes, hml, Bd.returns, BodyLoose.notSynchronized Bd, (name_of_methodNamed Bd.named Bd.method).1, findClass_of_methodNamed Bd.named, hh⟩, ⟨hZ, hw, hEL, fun q => ⟨rfl, hnw q⟩⟩, X0, e0, ⟨Fr.nil n0, hO⟩, ⟨(State.WarmedH.refl s).since 0, Nat.zero_le _⟩, CHr.refl hCv, hF⟩
  exact ⟨s₂, o, castTop (hent m) h1, h2, h3, v, L, h4, ⟨h5, h6⟩, by rw [hh]; exact h7, h8, h9⟩
def Kd (l : Launch) (Z : State) (a0 : Array Value) (y : MethodName) (B : ByteArray) (ml : Nat) (R : Room) (h : Heap) (ce sl pc : Nat) (L : Array Slot) (S : List Value) (z : MethodName) (len Wd : Nat) (as' : Array Value) (S' : List Value) : Prop :=
  ∀ (p : Program) (e : Env) (s : State) (m : MethodId) (args : Array Value) (below : List Frame) (meth : Method) (c : Code) (T : State) (locs : List Loc), p.tables.exec = Jvm.exec → c.code = B → s.vm.findClass y.cls = some m.cls → Z.Warmed39 s.vm → (∀ d ∈ tables_1, d.before a0 Z = true) → T.heap = h → c.maxLocals = ml → Stand p l e R s m args below meth c T locs ce sl →
    (∀ (Pre : Pt → Array Value → Prop) (Po : Pt → Array Value → Option Value → Pt → Prop), Back l R p e below s args z len Wd Pre Po → (∀ vm₁, s.WarmedH vm₁ → Pre ⟨T.setVm vm₁, locs, ce, sl⟩ as') →
      ∃ (v : Option Value) (vm₁ : Vm) (A : Pt), s.WarmedH vm₁ ∧ Stand p l e R s m args below meth c A.U A.locs A.cells A.slots ∧ Po ⟨T.setVm vm₁, locs, ce, sl⟩ as' v A ∧ ∀ u, Steps p.tables e below (A.U.setTop (mkF m (pc + len) L (v.toList ++ S'))) u → Steps p.tables e below (T.setTop (mkF m pc L S)) u) ∧
    (∀ (Pre : Pt → Array Value → Prop) (Po : Pt → Array Value → Option Value → Pt → Prop), BackS l R p e below s args z len Wd Pre Po → (∀ vm₁, s.WarmedH vm₁ → Pre ⟨T.setVm vm₁, locs, ce, sl⟩ as') →
      ∃ (v : Option Value) (vm₁ : Vm) (A : Pt), s.WarmedH vm₁ ∧ Stand p l e R (s.setVm A.U.vm) m args below meth c A.U A.locs A.cells A.slots ∧ s.Since A.U.vm A.U.heap.size ∧ T.heap.size ≤ A.U.heap.size ∧ Po ⟨T.setVm vm₁, locs, ce, sl⟩ as' v A ∧ ∀ u, Steps p.tables e below (A.U.setTop (mkF m (pc + len) L (v.toList ++ S'))) u → Steps p.tables e below (T.setTop (mkF m pc L S)) u)
theorem kStatic {i i2 i3 i4 ix mlz Wd : Nat} {z : MethodName} {Bz : ByteArray} {retz : Option FieldType} {argsL S' : List Value} {ps : List FieldType} {rz : Option FieldType} (hd : decode B pc = .ok (.invokestatic ix, 3)) (w : tables_1[i]? = some (.methodLink y.cls ix z)) (w2 : tables_1[i2]? = some (.static z)) (w3 : tables_1[i3]? = some (.initialized z.cls)) (w4 : tables_1[i4]? = some (.code z Bz mlz retz))
    (hy : z.cls ≠ "java/lang/invoke/MethodHandle" ∧ z.cls ≠ "java/lang/invoke/VarHandle") (hsz : L.size = ml) (hpd : parseMethodDescriptor z.desc = some ⟨ps, rz⟩) (hlen : argsL.length = ps.length) (hst : S = argsL.reverse ++ S') (hW : (S'.map fun v => v.category).sum ≤ Wd) : Kd l Z a0 y B ml R h ce sl pc L S z 3 Wd argsL.toArray S' :=
  fun p e s m args below meth c T locs hx hby hown hZ hw hT hml X =>
  ⟨fun Pre Po hK hpre => by
    obtain ⟨v, vm₁, A, a1, a2, a3, a4⟩ := Jvm.LawKit.callS X hx hown (mvT hZ (wat hw w)) (mvT hZ (wat hw w2)) (mvT hZ (wat hw w3)) (mvT hZ (wat hw w4)) hy hK (g := mkF m pc L S) rfl (hsz.trans hml.symm) (argsL := argsL) (rest := S') (lenOf hpd hlen) hst (by show 2 * 0 + _ ≤ _; omega) (Jvm.hb hby hd) hpre
    exact ⟨v, vm₁, A, a1, a2, a3, a4⟩,
   fun Pre Po hK hpre => by
    obtain ⟨v, vm₁, A, a1, a2, a3, a4, a5, a6⟩ := callSS X hx hown (mvT hZ (wat hw w)) (mvT hZ (wat hw w2)) (mvT hZ (wat hw w3)) (mvT hZ (wat hw w4)) hy hK (g := mkF m pc L S) rfl (hsz.trans hml.symm) (argsL := argsL) (rest := S') (lenOf hpd hlen) hst (by show 2 * 0 + _ ≤ _; omega) (Jvm.hb hby hd) hpre
    exact ⟨v, vm₁, A, a1, a2, a3, a4, a5, fun u q => a6.trans q⟩⟩
theorem kInit {i i2 i4 ix mlz Wd : Nat} {z : MethodName} {Bz : ByteArray} {argsL S' : List Value} {a : Addr} {ps : List FieldType} {rz : Option FieldType} (hd : decode B pc = .ok (.invokespecial ix, 3)) (hz : z.name = "<init>") (w : tables_1[i]? = some (.methodLink y.cls ix z)) (w2 : tables_1[i2]? = some (.instanceMethod z)) (w4 : tables_1[i4]? = some (.code z Bz mlz none))
    (hy : z.cls ≠ "java/lang/invoke/MethodHandle" ∧ z.cls ≠ "java/lang/invoke/VarHandle") (hsz : L.size = ml) (hpd : parseMethodDescriptor z.desc = some ⟨ps, rz⟩) (hlen : argsL.length = ps.length) (hst : S = argsL.reverse ++ .ref a :: S') (hW : (S'.map fun v => v.category).sum ≤ Wd) : Kd l Z a0 y B ml R h ce sl pc L S z 3 Wd (.ref a :: argsL).toArray S' :=
  fun p e s m args below meth c T locs hx hby hown hZ hw hT hml X =>
  ⟨fun Pre Po hK hpre => by
    obtain ⟨v, vm₁, A, a1, a2, a3, a4⟩ := X.specialBack hx hz hown (mvT hZ (wat hw w)) (mvT hZ (wat hw w2)) (mvT hZ (wat hw w4)) hy hK (g := mkF m pc L S) rfl (hsz.trans hml.symm) (Steps.refl _) (a := a) (argsL := argsL) (rest := S') (lenOf hpd hlen) hst (by show 2 * 0 + _ ≤ _; omega) (Jvm.hb hby hd) hpre
    exact ⟨v, vm₁, A, a1, a2, a3, fun u q => a4.trans q⟩,
   fun Pre Po hK hpre => by
    obtain ⟨v, vm₁, A, a1, a2, a3, a4, a5, a6⟩ := X.specialBackS hx hz hown (mvT hZ (wat hw w)) (mvT hZ (wat hw w2)) (mvT hZ (wat hw w4)) hy hK (g := mkF m pc L S) rfl (hsz.trans hml.symm) (Steps.refl _) (a := a) (argsL := argsL) (rest := S') (lenOf hpd hlen) hst (by show 2 * 0 + _ ≤ _; omega) (Jvm.hb hby hd) hpre
    exact ⟨v, vm₁, A, a1, a2, a3, a4, a5, fun u q => a6.trans q⟩⟩
theorem kVirt {i i2 i3 i4 ix Wd : Nat} {z : MethodName} {C : String} {argsL S' : List Value} {a : Addr} {ps : List FieldType} {rz : Option FieldType} (hd : decode B pc = .ok (.invokevirtual ix, 3)) (w : tables_1[i]? = some (.methodLink y.cls ix z)) (w2 : tables_1[i2]? = some (.declares z)) (w3 : tables_1[i3]? = some (.selects C z z)) (w4 : tables_1[i4]? = some (.instanceMethod z)) (E : Exa Z h a C)
    (hy : z.cls ≠ "java/lang/invoke/MethodHandle" ∧ z.cls ≠ "java/lang/invoke/VarHandle") (hsz : L.size = ml) (hpd : parseMethodDescriptor z.desc = some ⟨ps, rz⟩) (hlen : argsL.length = ps.length) (hst : S = argsL.reverse ++ .ref a :: S') (hW : (S'.map fun v => v.category).sum ≤ Wd) : Kd l Z a0 y B ml R h ce sl pc L S z 3 Wd (.ref a :: argsL).toArray S' :=
  fun p e s m args below meth c T locs hx hby hown hZ hw hT hml X => by
  obtain ⟨cB, kB, q1, q2, q3⟩ := isOf (s := s) (T := T) hZ hT E
  refine ⟨fun Pre Po hK hpre => ?_, fun Pre Po hK hpre => ?_⟩
  · obtain ⟨v, vm₁, A, a1, a2, a3, a4⟩ := X.virtualBack hx hown (mvT hZ (wat hw w)) (mvT hZ (wat hw w2)) (notFace_of_selects (args := #[]) (mvT hZ (wat hw w3))) (mvT hZ (wat hw w3)) (mvT hZ (wat hw w4)) hy hK q1 q3 (g := mkF m pc L S) rfl (hsz.trans hml.symm) (Steps.refl _) (argsL := argsL) (rest := S') (lenOf hpd hlen) hst (by show 2 * 0 + _ ≤ _; omega) (Jvm.hb hby hd) hpre
    exact ⟨v, vm₁, A, a1, a2, a3, fun u q => a4.trans q⟩
  · obtain ⟨v, vm₁, A, a1, a2, a3, a4, a5, a6⟩ := X.virtualBackS hx hown (mvT hZ (wat hw w)) (mvT hZ (wat hw w2)) (notFace_of_selects (args := #[]) (mvT hZ (wat hw w3))) (mvT hZ (wat hw w3)) (mvT hZ (wat hw w4)) hy hK q1 q3 (g := mkF m pc L S) rfl (hsz.trans hml.symm) (Steps.refl _) (argsL := argsL) (rest := S') (lenOf hpd hlen) hst (by show 2 * 0 + _ ≤ _; omega) (Jvm.hb hby hd) hpre
    exact ⟨v, vm₁, A, a1, a2, a3, a4, a5, fun u q => a6.trans q⟩
theorem nilBk {vm : Vm} {x : Addr} : Safe Z [] vm h x := fun ⟨_, q, _⟩ => nomatch q
theorem nilCHv {vm : Vm} : CHv Z [] vm h := fun _ q => nomatch q
theorem nilCHr {vm vm1 : Vm} {h' : Heap} (q : h.size ≤ h'.size) : CHr Z [] vm h vm1 h' := ⟨nilCHv, q, fun _ ⟨_, r, _⟩ => nomatch r⟩
/-- a callee by its contract, as the library's calls take it -/
theorem Met.backS {p : Program} {e : Env} {below : List Frame} {s : State} {args : Array Value} {vm : Vm} {z : MethodName} {Bz : ByteArray} {mlz len Wd : Nat} {retz : Option FieldType} {Rz : Room} {as' : Array Value} {fs' : List Addr} {Pz : Option Value → Heap → Prop}
    (M : Met l nw Z EL n0 z Bz mlz retz Rz [] as' fs' h Pz) (hZ : Z.Warmed39 vm) (wc : (Jvm.Cond.code z Bz mlz retz).before a0 Z = true) (wz : (Jvm.Cond.initialized z.cls).before a0 Z = true) (hf : Rz.frames + 1 ≤ R.frames) (hl : Wd + (mlz + 11) + Rz.locals ≤ R.locals) (hEL : EW Z a0 EL) (H : CHv Z EL vm h) (hO : Old Z n0 h) (hF : ∀ x ∈ fs', n0 ≤ x ∧ x < h.size ∧ Safe Z EL vm h x) :
    BackS l R p e below (s.setVm vm) args z len Wd (fun A a => a = as' ∧ A.U.heap = h ∧ A.cells + Rz.cells ≤ R.cells ∧ A.slots + Rz.slots ≤ R.slots)
      (fun A _ v A' => ∃ Lo, (Pz v A'.U.heap ∧ Fr n0 Lo ∧ Old Z n0 A'.U.heap) ∧ A'.locs = A.locs ++ Lo ∧ A'.cells = A.cells + Rz.cells ∧ A'.slots = A.slots + Rz.slots ∧ CHr Z EL vm h A'.U.vm A'.U.heap) :=
  BackS.of_freeW (bytes := Bz) (maxL := mlz) (ret := retz) (E := fun _ first o t Lo k n => k = Rz.cells ∧ n = Rz.slots ∧ (∃ v, o = .returned v ∧ Pz v t.heap ∧ Fr n0 Lo ∧ Old Z n0 t.heap) ∧ CHr Z EL first.vm first.heap t.vm t.heap) M hf hl
    (fun m meth c A a Y hp => have hU : Z.Warmed39 A.U.vm := wtrans (s := s.setVm vm) hZ Y.warmed
      ⟨by show (Cond.and _ .tt).before a A.U = true; rw [Cond.before_and, mv hU wc]; rfl, mv hU wc, mv hU wz, hp.2.2.1, hp.2.2.2⟩)
    (fun m meth c A a g mk Y hp => ⟨hp.1, wtrans (s := s.setVm vm) hZ Y.warmed, hp.2.1, (CHv.at Y hZ hEL H).1, hO, fun x q => ⟨(hF x q).1, (hF x q).2.1, (CHv.at Y hZ hEL H).safe (hF x q).2.1 (hF x q).2.2⟩⟩) (fun _ _ _ _ _ _ _ _ _ => trivial)
    (fun _ _ _ _ ⟨v, Lo, h1, h2, h3, h4, _⟩ => ⟨Lo, _, _, h4, rfl, rfl, ⟨v, h1, h2⟩, h3⟩)
    (fun m meth c A a g mk v t Lo k n Y hp _ _ ⟨e1, e2, ⟨v', e3, e4⟩, e5⟩ => by
      cases e3; subst e1 e2
      refine ⟨Lo, e4, rfl, rfl, rfl, (CHv.at Y hZ hEL H).trans ?_⟩
      rw [← hp.2.1]; exact e5)
theorem call {i i2 : Nat} {z : MethodName} {Bz : ByteArray} {mlz len Wd : Nat} {retz : Option FieldType} {Rz : Room} {as' : Array Value} {fs' : List Addr} {Pz : Option Value → Heap → Prop} {S' : List Value} (kd : Kd l Z a0 y B ml R h ce sl pc L S z len Wd as' S') (M : Met l nw Z EL n0 z Bz mlz retz Rz [] as' fs' h Pz) (wc : tables_1[i]? = some (.code z Bz mlz retz)) (wz : tables_1[i2]? = some (.initialized z.cls))
    (hfs : ∀ x ∈ fs', x ∈ fs) (hf : Rz.frames + 1 ≤ R.frames) (hl : Wd + (mlz + 11) + Rz.locals ≤ R.locals) (hc : ce + Rz.cells ≤ R.cells) (hs : sl + Rz.slots ≤ R.slots) (hp : pc + len = pc')
    (K : ∀ v h', Pz v h' → h.size ≤ h'.size → Wq l nw Z EL a0 n0 y B ml ret R h0 Post fs h' (ce + Rz.cells) (sl + Rz.slots) pc' L (v.toList ++ S')) : Wq l nw Z EL a0 n0 y B ml ret R h0 Post fs h ce sl pc L S := fun p e s m args below meth c T locs vm k C => by
  obtain ⟨⟨hx, hby, hml, hret, hlk, hnm, hown, hh0⟩, ⟨hZ, hw, hEL, hnw⟩, X, hT, ⟨hN, hO⟩, ⟨hS, hk⟩, hC, hF⟩ := C
  subst hp
  cases hq : nw with
  | true =>
    obtain ⟨q1, rfl⟩ := hnw hq
    have M' : MetFree l z (head1 [Jvm.Cond.code z Bz mlz retz] Rz) (fun a U => a = as' ∧ Z.Warmed39 U.vm ∧ U.heap = h) (fun _ _ _ _ _ => True) (fun _ U o U' => ∃ v Lo, o = .returned v ∧ (Pz v U'.heap ∧ Fr n0 Lo ∧ Old Z n0 U'.heap ∧ h.size ≤ U'.heap.size) ∧ FrameEnd U o U' Lo Rz.cells Rz.slots) :=
      MetFree.mono M (fun a U q => ⟨q.1, q.2.1, q.2.2, nilCHv, hO, fun x r => ⟨(hF x (hfs x r)).1, (hF x (hfs x r)).2.1, nilBk⟩⟩) (fun _ _ _ _ _ q => q) (fun a U o U' hP ⟨v, Lo, h1, h2, h3, h4, h5⟩ => ⟨v, Lo, h1, ⟨h2.1, h2.2.1, h2.2.2, by have := h3.2.1; rw [hP.2.2] at this; exact this⟩, ⟨v, h1⟩, h5 hq, h4.2.2.2⟩)
    obtain ⟨v, vm₁, ⟨T', L', c', n'⟩, -, X', ⟨Lo, ⟨hP, hN', hO', hsz⟩, l1, l2, l3⟩, st⟩ := (kd p e (s.setVm vm) m args below meth c T locs hx hby hown hZ hw hT hml X).1 _ _ (backOf (W := Wd) (s := s.setVm vm) (Q := fun v h' Lo => Pz v h' ∧ Fr n0 Lo ∧ Old Z n0 h' ∧ h.size ≤ h'.size) M' hZ (wat hw wc) (wat hw wz) hf hl) (fun vm₁ _ => ⟨rfl, hT, hc, hs⟩)
    dsimp only [Pt.U, Pt.locs, Pt.cells, Pt.slots] at X' hP hO' hsz l1 l2 l3 st
    subst l1 l2 l3
    have := K v T'.heap hP hsz p e s m args below meth c T' _ vm k ⟨⟨hx, hby, hml, hret, hlk, hnm, hown, hh0⟩, ⟨hZ, hw, hEL, hnw⟩, X', rfl, ⟨hN.app hN', hO'⟩, ⟨hS, Nat.le_trans hk hsz⟩, nilCHr (Nat.le_trans hC.2.1 hsz), fun x r => ⟨(hF x r).1, Nat.lt_of_lt_of_le (hF x r).2.1 hsz, nilBk⟩⟩
    rw [hq] at this
    exact this.st st
  | false =>
    obtain ⟨v, vm₁, ⟨T', L', c', n'⟩, -, X', hS', hsz, ⟨Lo, ⟨hP, hN', hO'⟩, l1, l2, l3, hC'⟩, st⟩ := (kd p e (s.setVm vm) m args below meth c T locs hx hby hown hZ hw hT hml X).2 _ _ (Met.backS (R := R) (Wd := Wd) (a0 := a0) M hZ (wat hw wc) (wat hw wz) hf hl hEL hC.1 hO (fun x r => hF x (hfs x r))) (fun vm₁ _ => ⟨rfl, hT, hc, hs⟩)
    dsimp only [Pt.U, Pt.locs, Pt.cells, Pt.slots] at X' hP hO' hS' hsz l1 l2 l3 hC' st
    subst l1 l2 l3
    have hsz' : h.size ≤ T'.heap.size := by rw [← hT]; exact hsz
    have hW2 : (s.setVm vm).Warmed39 T'.vm := hS'.1
    have hZ' : Z.Warmed39 T'.vm := State.Warmed39.trans (t := s.setVm vm) hZ hW2
    have := K v T'.heap hP hsz' p e s m args below meth c T' _ T'.vm T'.heap.size ⟨⟨hx, hby, hml, hret, hlk, hnm, by rw [hW2.alike.findClass]; exact hown, hh0⟩, ⟨hZ', hw, hEL, fun q => by rw [hq] at q; cases q⟩, X', rfl, ⟨hN.app hN', hO'⟩, ⟨hS.trans hS' (Nat.le_trans hk hsz'), Nat.le_refl _⟩, hC.trans hC', fun x r => ⟨(hF x r).1, Nat.lt_of_lt_of_le (hF x r).2.1 hsz', hC'.safe (hF x r).2.1 (hF x r).2.2⟩⟩
    rw [hq] at this
    exact this.st st
/-- a callee by a law of the library's (or pasted) shape -/
theorem callB {z : MethodName} {len Wd kc ks : Nat} {as' : Array Value} {Qb : Option Value → Heap → List Loc → Prop} {S' : List Value} {ws : List Addr} (kd : Kd l Z a0 y B ml R h ce sl pc L S z len Wd as' S')
    (hK : ∀ {p : Program} {e : Env} {below : List Frame} {s : State} {args : Array Value}, Z.Warmed39 s.vm → (∀ d ∈ tables_1, d.before a0 Z = true) → Back l R p e below s args z len Wd (fun A a => a = as' ∧ A.U.heap = h ∧ A.cells + kc ≤ R.cells ∧ A.slots + ks ≤ R.slots) (fun A _ v A' => ∃ Lo, Qb v A'.U.heap Lo ∧ A'.locs = A.locs ++ Lo ∧ A'.cells = A.cells + kc ∧ A'.slots = A.slots + ks))
    (hws : ∀ x ∈ ws, x ∈ fs) (hQ : ∀ v h' Lo, Qb v h' Lo → Fr n0 Lo ∧ Keep h h' ws) (hc : ce + kc ≤ R.cells) (hs : sl + ks ≤ R.slots) (hp : pc + len = pc')
    (K : ∀ v h' Lo, Qb v h' Lo → Wq l nw Z EL a0 n0 y B ml ret R h0 Post fs h' (ce + kc) (sl + ks) pc' L (v.toList ++ S')) : Wq l nw Z EL a0 n0 y B ml ret R h0 Post fs h ce sl pc L S := fun p e s m args below meth c T locs vm k C => by
  obtain ⟨⟨hx, hby, hml, hret, hlk, hnm, hown, hh0⟩, ⟨hZ, hw, hEL, hnw⟩, X, hT, ⟨hN, hO⟩, ⟨hS, hk⟩, hC, hF⟩ := C
  subst hp
  obtain ⟨v, vm₁, ⟨T', L', c', n'⟩, -, X', ⟨Lo, hP, l1, l2, l3⟩, st⟩ := (kd p e (s.setVm vm) m args below meth c T locs hx hby hown hZ hw hT hml X).1 _ _ (hK (s := s.setVm vm) hZ hw) (fun vm₁ _ => ⟨rfl, hT, hc, hs⟩)
  dsimp only [Pt.U, Pt.locs, Pt.cells, Pt.slots] at X' hP l1 l2 l3 st
  subst l1 l2 l3
  obtain ⟨hN', hKp⟩ := hQ v _ Lo hP
  have hsf : ∀ x ∈ ws, Safe Z EL vm h x := fun x r => (hF x (hws x r)).2.2
  exact (K v T'.heap Lo hP p e s m args below meth c T' _ vm k ⟨⟨hx, hby, hml, hret, hlk, hnm, hown, hh0⟩, ⟨hZ, hw, hEL, hnw⟩, X', rfl, ⟨hN.app hN', hO.keep hKp (fun x r => (hF x (hws x r)).1)⟩, ⟨hS, Nat.le_trans hk hKp.1⟩, hC.trans (CHr.keep hKp hsf hC.1), fun x r => ⟨(hF x r).1, Nat.lt_of_lt_of_le (hF x r).2.1 hKp.1, Safe.keep hKp hsf hC.1 (hF x r).2.2⟩⟩).st st
end Calls
end Ow
end Jvm.Pilot.@@N@@
namespace Jvm.Pilot.@@N@@
open Jvm Jvm.ClassFile Sem Op Lib Jvm.Free Jvm.Stand Jvm.LawKit Jvm.RoadKit Bundle Jvm.Pilot.@@N@@.Jvm.D
namespace Ow
section More
variable {l : Launch} {nw : Bool} {Z : State} {EL : List (String × Nat)} {a0 : Array Value} {n0 : Nat} {y : MethodName} {B : ByteArray} {ml : Nat} {ret : Option FieldType} {R : Room} {h0 : Heap} {Post : Option Value → Heap → Prop} {fs : List Addr} {h : Heap} {ce sl pc pc' : Nat} {L : Array Slot} {S : List Value}
/-- System.arraycopy between two arrays of one primitive type -/
theorem copyArr {i1 i2 i3 i4 ix Wd : Nat} {a b : Addr} {kc k' : ClassId} {ty : FieldType} {z z' sp dp nn : Int32} {vs vd : List Value} {dv dd : Value} (hd : decode B pc = .ok (.invokestatic ix, 3)) (w1 : tables_1[i1]? = some (.methodLink y.cls ix Jvm.Stand.acN)) (w2 : tables_1[i2]? = some (.native Jvm.Stand.acN)) (w3 : tables_1[i3]? = some (.static Jvm.Stand.acN)) (w4 : tables_1[i4]? = some (.initialized "java/lang/System"))
    (A : Arv Z h a kc ty z vs dv) (A' : Arv Z h b k' ty z' vd dd) (hty : refKind ty = false) (h1 : ¬ sp < 0) (h2 : ¬ dp < 0) (h3 : ¬ nn < 0) (h4 : sp.toNatClampNeg + nn.toNatClampNeg ≤ z.toNatClampNeg) (h5 : dp.toNatClampNeg + nn.toNatClampNeg ≤ z'.toNatClampNeg) (hl : dp.toNatClampNeg + nn.toNatClampNeg ≤ vd.length) (hb : b ∈ fs)
    (hsz : L.size = ml) (hfr : 1 ≤ R.frames) (hW : (S.map fun v => v.category).sum ≤ Wd) (hlo : Wd + (nativeFrameWords "java/lang/System" "arraycopy" 5 + 11) ≤ R.locals) (hp : pc + 3 = pc')
    (K : ∀ h', Keep h h' [b] → Arv Z h' b k' ty z' (vd.take dp.toNatClampNeg ++ (List.range nn.toNatClampNeg).map (fun i => vs.getD (sp.toNatClampNeg + i) dv) ++ vd.drop (dp.toNatClampNeg + nn.toNatClampNeg)) dd → Wq l nw Z EL a0 n0 y B ml ret R h0 Post fs h' ce sl pc' L S) :
    Wq l nw Z EL a0 n0 y B ml ret R h0 Post fs h ce sl pc L (.int nn :: .int dp :: .ref b :: .int sp :: .ref a :: S) := fun p e s m args below meth c T locs vm k C => by
  obtain ⟨⟨hx, hby, hml, hret, hlk, hnm, hown, hh0⟩, ⟨hZ, hw, hEL, hnw⟩, X, hT, ⟨hN, hO⟩, ⟨hS, hk⟩, hC, hF⟩ := C
  subst hp
  obtain ⟨T', h', Lo, X', e', N', hKp, AA, st⟩ := cpA X hx hZ hown (wat hw w1) (wat hw w2) (wat hw w3) (wat hw w4) hT A A' (Or.inl ⟨rfl, hty⟩) h1 h2 h3 h4 h5 rfl hl hN (hF b hb).1 (g := mkF m pc L (.int nn :: .int dp :: .ref b :: .int sp :: .ref a :: S)) rfl (hsz.trans hml.symm) rfl (Jvm.hb hby hd) hfr (W := Wd) (by show 2 * 0 + _ ≤ _; omega) hlo
  have hsf : ∀ x ∈ [b], Safe Z EL vm h x := fun x r => by cases List.mem_singleton.mp r; exact (hF b hb).2.2
  have hge : ∀ x ∈ [b], n0 ≤ x := fun x r => by cases List.mem_singleton.mp r; exact (hF b hb).1
  exact (K h' hKp AA p e s m args below meth c T' _ vm k ⟨⟨hx, hby, hml, hret, hlk, hnm, hown, hh0⟩, ⟨hZ, hw, hEL, hnw⟩, X', e', ⟨N', hO.keep hKp hge⟩, ⟨hS, Nat.le_trans hk hKp.1⟩, hC.trans (CHr.keep hKp hsf hC.1), fun x r => ⟨(hF x r).1, Nat.lt_of_lt_of_le (hF x r).2.1 hKp.1, Safe.keep hKp hsf hC.1 (hF x r).2.2⟩⟩).st st
/-- invokevirtual of a private method; z2: another method of the class, whose 'selects' word says that the class is no interface -/
theorem kPriv {i i2 i3 i4 i5 ix mlz Wd : Nat} {z z2 : MethodName} {Bz : ByteArray} {retz : Option FieldType} {C D : String} {argsL S' : List Value} {a : Addr} {ps : List FieldType} {rz : Option FieldType} (hd : decode B pc = .ok (.invokevirtual ix, 3)) (w : tables_1[i]? = some (.methodLink y.cls ix z)) (w2 : tables_1[i2]? = some (.instanceMethod z)) (w3 : tables_1[i3]? = some (.selects C z2 z2)) (w4 : tables_1[i4]? = some (.code z Bz mlz retz)) (w5 : tables_1[i5]? = some (.privateMethod z)) (hcl : z2.cls = z.cls) (E : Exa Z h a D)
    (hy : z.cls ≠ "java/lang/invoke/MethodHandle" ∧ z.cls ≠ "java/lang/invoke/VarHandle") (hsz : L.size = ml) (hpd : parseMethodDescriptor z.desc = some ⟨ps, rz⟩) (hlen : argsL.length = ps.length) (hst : S = argsL.reverse ++ .ref a :: S') (hW : (S'.map fun v => v.category).sum ≤ Wd) : Kd l Z a0 y B ml R h ce sl pc L S z 3 Wd (.ref a :: argsL).toArray S' :=
  fun p e s m args below meth c T locs hx hby hown hZ hw hT hml X => by
  obtain ⟨cB, kB, q1, q2, cell, q3, -, q4⟩ := isOf (s := s) (T := T) hZ hT E
  have hobj : ∀ q, cell.vm ≠ .statics q := fun q r => by rw [r] at q4; cases q4
  have hpr := Cond.privateMethod_at (mvT (args := args) hZ (wat hw w5))
  have hin := mvT (args := args) hZ (wat hw w2)
  obtain ⟨c2, r2, m2, -, -, p3, -, kP, hkP, hkPi⟩ := Cond.selects_spec (mvT (args := args) hZ (wat hw w3))
  have hsel := Jvm.Stand.selects_self_of_private (args := args) (by rw [← hcl]; exact findClass_of_methodNamed p3) hkP hkPi hpr hin hy
  refine ⟨fun Pre Po hK hpre => ?_, fun Pre Po hK hpre => ?_⟩
  · obtain ⟨v, vm₁, A, a1, a2, a3, a4⟩ := X.privateBack hx hown (mvT hZ (wat hw w)) hin hsel hpr (mvT hZ (wat hw w4)) hy hK (g := mkF m pc L S) rfl (hsz.trans hml.symm) (Steps.refl _) q3 hobj (argsL := argsL) (rest := S') (lenOf hpd hlen) hst (by show 2 * 0 + _ ≤ _; omega) (Jvm.hb hby hd) hpre
    exact ⟨v, vm₁, A, a1, a2, a3, fun u q => a4.trans q⟩
  · obtain ⟨v, vm₁, A, a1, a2, a3, a4, a5, a6⟩ := X.privateBackS hx hown (mvT hZ (wat hw w)) hin hsel hpr (mvT hZ (wat hw w4)) hy hK (g := mkF m pc L S) rfl (hsz.trans hml.symm) (Steps.refl _) q3 hobj (argsL := argsL) (rest := S') (lenOf hpd hlen) hst (by show 2 * 0 + _ ≤ _; omega) (Jvm.hb hby hd) hpre
    exact ⟨v, vm₁, A, a1, a2, a3, a4, a5, fun u q => a6.trans q⟩
/-- invokeinterface -/
theorem kIface {i i2 i3 i4 i5 i6 i7 i8 ix ct Wd : Nat} {xi z : MethodName} {C : String} {argsL S' : List Value} {a : Addr} {ps : List FieldType} {rz : Option FieldType} (hd : decode B pc = .ok (.invokeinterface ix ct, 5)) (w : tables_1[i]? = some (.methodLink y.cls ix xi)) (w2 : tables_1[i2]? = some (.declares xi)) (w3 : tables_1[i3]? = some (.interfaceMethod xi.cls xi.cls xi.name xi.desc)) (w4 : tables_1[i4]? = some (.selects C xi z)) (w5 : tables_1[i5]? = some (.instanceMethod z)) (w6 : tables_1[i6]? = some (.publicMethod z)) (w7 : tables_1[i7]? = some (.unhidden C xi.name xi.desc)) (w8 : tables_1[i8]? = some (.castable C xi.cls)) (E : Exa Z h a C)
    (hy : xi.cls ≠ "java/lang/invoke/MethodHandle" ∧ xi.cls ≠ "java/lang/invoke/VarHandle") (hsz : L.size = ml) (hpd : parseMethodDescriptor xi.desc = some ⟨ps, rz⟩) (hlen : argsL.length = ps.length) (hst : S = argsL.reverse ++ .ref a :: S') (hW : (S'.map fun v => v.category).sum ≤ Wd) : Kd l Z a0 y B ml R h ce sl pc L S z 5 Wd (.ref a :: argsL).toArray S' :=
  fun p e s m args below meth c T locs hx hby hown hZ hw hT hml X => by
  obtain ⟨cB, kB, q1, q2, q3⟩ := isOf (s := s) (T := T) hZ hT E
  refine ⟨fun Pre Po hK hpre => ?_, fun Pre Po hK hpre => ?_⟩
  · obtain ⟨v, vm₁, A, a1, a2, a3, a4⟩ := X.interfaceBack hx hown (mvT hZ (wat hw w)) (mvT hZ (wat hw w2)) (mvT hZ (wat hw w3) (by simp [Cond.onTables, Cond.keepsFace, Cond.keeps, Cond.steady, Cond.faceAtom, hy.1, hy.2])) (mvT hZ (wat hw w4)) (mvT hZ (wat hw w5)) (mvT hZ (wat hw w6)) (mvT hZ (wat hw w7)) (mvT hZ (wat hw w8)) hy hK q1 q2 q3 (g := mkF m pc L S) rfl (hsz.trans hml.symm) (Steps.refl _) (argsL := argsL) (rest := S') (lenOf hpd hlen) hst (by show 2 * 0 + _ ≤ _; omega) (Jvm.hb hby hd) hpre
    exact ⟨v, vm₁, A, a1, a2, a3, fun u q => a4.trans q⟩
  · obtain ⟨v, vm₁, A, a1, a2, a3, a4, a5, a6⟩ := X.interfaceBackS hx hown (mvT hZ (wat hw w)) (mvT hZ (wat hw w2)) (mvT hZ (wat hw w3) (by simp [Cond.onTables, Cond.keepsFace, Cond.keeps, Cond.steady, Cond.faceAtom, hy.1, hy.2])) (mvT hZ (wat hw w4)) (mvT hZ (wat hw w5)) (mvT hZ (wat hw w6)) (mvT hZ (wat hw w7)) (mvT hZ (wat hw w8)) hy hK q1 q2 q3 (g := mkF m pc L S) rfl (hsz.trans hml.symm) (Steps.refl _) (argsL := argsL) (rest := S') (lenOf hpd hlen) hst (by show 2 * 0 + _ ≤ _; omega) (Jvm.hb hby hd) hpre
    exact ⟨v, vm₁, A, a1, a2, a3, a4, a5, fun u q => a6.trans q⟩
/-- an object that a callee made is one of ours (no literals about) -/
theorem adopt {b : Addr} (hE : EL = []) (hb : n0 ≤ b) (hl : b < h.size) (K : Wq l nw Z EL a0 n0 y B ml ret R h0 Post (b :: fs) h ce sl pc L S) : Wq l nw Z EL a0 n0 y B ml ret R h0 Post fs h ce sl pc L S := fun p e s m args below meth c T locs vm k C => by
  subst hE
  obtain ⟨c1, c2, c3, c4, c5, c6, c7, hF⟩ := C
  exact K p e s m args below meth c T locs vm k ⟨c1, c2, c3, c4, c5, c6, c7, fun x q => (List.mem_cons.mp q).elim (fun r => r ▸ ⟨hb, hl, nilBk⟩) (hF x)⟩
end More
end Ow
end Jvm.Pilot.@@N@@
namespace Jvm.Pilot.@@N@@
open Jvm Jvm.ClassFile Sem Op Lib Jvm.Free Jvm.Stand Jvm.LawKit Jvm.RoadKit Bundle Jvm.Pilot.@@N@@.Jvm.D
namespace Ow
abbrev ST : String := "java/lang/String"
/-- the sets: compact strings are on; the formatter is a reference -/
def Sets (Z : State) : Prop := ∃ (zc : Int32) (fm : Value), Sta Z Z.heap ST "COMPACT_STRINGS" "Z" (.int zc) ∧ ¬ zc = 0 ∧ Sta Z Z.heap "jdk/internal/util/Preconditions" "SIOOBE_FORMATTER" "Ljava/util/function/BiFunction;" fm ∧ fm.isRef = true
abbrev lat (cs : List Int32) : List Value := (cs.map fun c => c.toInt8.toInt32).map Value.int
/-- a String of the chars cs, each 0 to 255 -/
def Str (Z : State) (h : Heap) (a : Addr) (cs : List Int32) : Prop := Exa Z h a ST ∧ Fld Z h a ST "coder" "B" (.int 0) ∧ (∃ (t : Addr) (kb : ClassId), Fld Z h a ST "value" "[B" (.ref t) ∧ Arv Z h t kb .byte (Int32.ofNat cs.length) (lat cs) (.int 0)) ∧ (∀ c ∈ cs, ¬ c < 0 ∧ ¬ (255 : Int32) < c) ∧ cs.length ≤ 4000
section StrFacts
variable {Z : State} {h h' : Heap} {a x : Addr} {cs : List Int32} {C : String} {a0 : Array Value} {k : Nat}
theorem Str.exa (F : Str Z h a cs) : Exa Z h a ST := F.1
theorem Str.lt (F : Str Z h a cs) : a < h.size := F.1.lt
theorem Str.ext (F : Str Z h a cs) (E : Ext h h') : Str Z h' a cs := by
  obtain ⟨e, c, ⟨t, kb, v, ar⟩, r⟩ := F
  exact ⟨e.ext E, c.ext E, ⟨t, kb, v.ext E, ar.ext E⟩, r⟩
theorem Str.keep1 (F : Str Z h a cs) (K : Keep h h' [x]) (ne : a ≠ x) (E : Exa Z h x C) (w : (Jvm.Cond.instantiable C k).before a0 Z = true) : Str Z h' a cs := by
  obtain ⟨e, c, ⟨t, kb, v, ar⟩, r⟩ := F
  have q : t ≠ x := Ne.symm (E.neArv ar w)
  exact ⟨e.keep K, c.keep K (ninS ne nin0), ⟨t, kb, v.keep K (ninS ne nin0), ar.keep K (ninS q nin0)⟩, r⟩
theorem up (h : ∀ c ∈ cs, ¬ c < 0 ∧ ¬ (255 : Int32) < c) : ∀ c ∈ cs, ¬ c < 0 ∧ ¬ (65535 : Int32) < c := fun c hc => ⟨(h c hc).1, fun q => (h c hc).2 (by rw [Int32.lt_iff_toInt_lt] at q ⊢; have e1 : (65535 : Int32).toInt = 65535 := rfl; have e2 : (255 : Int32).toInt = 255 := rfl; omega)⟩
theorem keepExt (K : Keep h h' []) : Ext h h' := ⟨K.1, fun q c r => K.2.1 q c r nin0⟩
theorem Str.wr1 {sl : Nat} {v : Value} (F : Str Z h a cs) (K : Wr h h' x sl v) (ne : a ≠ x) (E : Exa Z h x C) (w : (Jvm.Cond.instantiable C k).before a0 Z = true) : Str Z h' a cs := F.keep1 (Keep.of_wr K) ne E w
end StrFacts
section StrRules
variable {l : Launch} {nw : Bool} {Z : State} {EL : List (String × Nat)} {a0 : Array Value} {n0 : Nat} {y : MethodName} {B : ByteArray} {ml : Nat} {ret : Option FieldType} {R : Room} {h0 : Heap} {Post : Option Value → Heap → Prop} {fs : List Addr} {h : Heap} {ce sl pc pc' : Nat} {L : Array Slot} {S S' : List Value}
/-- new String(chars): the call of the constructor, a char[] of 1 to 4,000 chars, each 0 to 255 -/
theorem strNew {i Wd n : Nat} {x b : Addr} {kC : ClassId} {cs : List Int32} {d v0 c0 : Value} {N : Int32} (hB : Sets Z) (hws : ∀ d ∈ StrChars.Road.words, d ∈ tables_1) (wi : tables_1[i]? = some (.instantiable ST 4)) (kd : Kd l Z a0 y B ml R h ce sl pc L S (⟨"java/lang/String", "<init>", "([C)V"⟩ : MethodName) 3 Wd #[.ref x, .ref b] S')
    (E : Exa Z h x ST) (Vf : Fld Z h x ST "value" "[B" v0) (Cf : Fld Z h x ST "coder" "B" c0) (A : Arv Z h b kC .char N (cs.map Value.int) d) (hn : cs.length = n) (hN : N = Int32.ofNat n) (l0 : 0 < n) (l2 : n ≤ 4000) (hp : ∀ c ∈ cs, ¬ c < 0 ∧ ¬ (255 : Int32) < c) (hx : x ∈ fs)
    (hfr : 4 ≤ R.frames) (hlo : Wd + 65 ≤ R.locals) (hc : ce + 1 ≤ R.cells) (hs : sl + n ≤ R.slots) (hpc : pc + 3 = pc') (K : ∀ h', Keep h h' [x] → Str Z h' x cs → Wq l nw Z EL a0 n0 y B ml ret R h0 Post fs h' (ce + 1) (sl + n) pc' L S') : Wq l nw Z EL a0 n0 y B ml ret R h0 Post fs h ce sl pc L S := by
  obtain ⟨zc, fm, Cs, hz, -, -⟩ := hB
  refine old fun O _ => fsz fun F => ?_
  refine callB (ws := [x]) (kc := 1) (ks := n) (Qb := StrChars.Road.QV Z x N (cs.map fun c => c.toInt8.toInt32) h n0) kd (fun hZ hw => StrChars.Road.backV (W := Wd) hZ (fun d q => hw d (hws d q)) (kI := 4) (wat hw wi) (F x hx).1 (by have := O.2.1; rw [O.1] at this; exact this) E Vf Cf A (Cs.ext O.2) hz hn hN l0 l2 hp rfl hfr hlo)
    (fun z q => by cases List.mem_singleton.mp q; exact hx) (fun v h' Lo q => ⟨q.2.1, q.2.2.1⟩) hc hs hpc (fun v h' Lo q => ?_)
  obtain ⟨rfl, -, q3, q4, q5, t, kb, -, -, -, q6, q7⟩ := q
  exact K h' q3 ⟨q4, q5, ⟨t, kb, q6, by rw [hn, ← hN]; exact q7⟩, hp, by omega⟩
theorem strAt {i j Wd len : Nat} {x : Addr} {cs : List Int32} {jj c : Int32} (hB : Sets Z) (hws : ∀ d ∈ StrChars.Road.wordsChN, d ∈ tables_1) (wi : tables_1[i]? = some (.instantiable ST 4)) (kd : Kd l Z a0 y B ml R h ce sl pc L S (⟨"java/lang/String", "charAt", "(I)C"⟩ : MethodName) len Wd #[.ref x, .int jj] S')
    (F : Str Z h x cs) (hj : j < cs.length) (hjj : jj = Int32.ofNat j) (hcv : cs.getD j 0 = c) (hfr : 4 ≤ R.frames) (hlo : Wd + 53 ≤ R.locals) (hc : ce ≤ R.cells) (hs : sl ≤ R.slots) (hpc : pc + len = pc') (K : Wq l nw Z EL a0 n0 y B ml ret R h0 Post fs h ce sl pc' L (.int c :: S')) : Wq l nw Z EL a0 n0 y B ml ret R h0 Post fs h ce sl pc L S := by
  obtain ⟨zc, fm, Cs, hz, Sf, hfm⟩ := hB
  obtain ⟨e, co, ⟨t, kb, v, ar⟩, hp, l2⟩ := F
  subst hcv
  refine old fun O _ => ?_
  refine callB (ws := []) (kc := 0) (ks := 0) (Qb := fun v h' Lo => v = some (.int (cs.getD j 0)) ∧ Lo = [] ∧ h' = h) kd (fun hZ hw => StrChars.Road.chN (W := Wd) hZ (fun d q => hw d (hws d q)) (kI := 4) (wat hw wi) e v co ar (StrChars.Road.codOf rfl fun c q => (hp c q).2) (up hp) (Cs.ext O.2) hz (Sf.ext O.2) hfm l2 hj hjj hfr hlo)
    (fun z q => nomatch q) (fun v h' Lo q => by obtain ⟨-, rfl, rfl⟩ := q; exact ⟨Fr.nil _, Keep.refl _ _⟩) hc hs hpc (fun v h' Lo q => ?_)
  obtain ⟨rfl, rfl, rfl⟩ := q
  exact K
end StrRules
end Ow
end Jvm.Pilot.@@N@@
namespace Jvm.Pilot.@@N@@
open Jvm Jvm.ClassFile Sem Op Lib Jvm.Free Jvm.Stand Jvm.LawKit Jvm.RoadKit Bundle Jvm.Pilot.@@N@@.Jvm.D
namespace Ow
/-! From the words of a case (at the start s) to facts on the start's heap -/
section Words
variable {args : Array Value} {s : State} {t u : Term} {x : Addr} {z : Int32} {cl : Cell} {ty : FieldType}
theorem eqI (h : (Cond.eq t (.int z)).value args s none s [] = some true) : t.eval args s none [] s = some (.int z) := by
  cases ht : t.eval args s none [] s with
  | none => simp [Cond.value, ht] at h
  | some v => cases v <;> simp [Cond.value, Term.eval, ht] at h ⊢; exact h
theorem eqA (hu : u.eval args s none [] s = some (.ref x)) (h : (Cond.eq t u).value args s none s [] = some true) : t.eval args s none [] s = some (.ref x) := by
  cases ht : t.eval args s none [] s with
  | none => simp [Cond.value, ht] at h
  | some v => cases v <;> simp [Cond.value, hu, ht] at h ⊢; exact h
theorem lenI (ht : t.eval args s none [] s = some (.ref x)) (A : Arr s s.heap x cl ty) (h : (Cond.eq (.length t) (.int z)).value args s none s [] = some true) : cl.slots.size < 2 ^ 31 ∧ cl.slots.size.toInt32 = z := by
  have e := eqI h
  have q := A.fin (U := s) (Vm.Alike.refl _)
  simp only [Term.eval, ht, q, Option.bind_eq_bind, Option.bind_some] at e
  split at e
  · rename_i hlt
    exact ⟨hlt, by simpa using e⟩
  · cases e
theorem elemI {j : Int32} {v : Value} (ht : t.eval args s none [] s = some (.ref x)) (A : Arr s s.heap x cl ty) (e : (Term.elem t (.int j)).eval args s none [] s = some v) : cl.slots[j.toNatClampNeg]? = some v :=
  (elem_in e ht rfl A.1).2
/-- an array of the start: its length and components as the words say -/
theorem arr_of (hfit : Fit s) {vs : List Value} {dv : Value} (ht : t.eval args s none [] s = some (.ref x)) (h1 : (Cond.arrayOf t ty).value args s none s [] = some true) (h2 : (Cond.eq (.length t) (.int z)).value args s none s [] = some true) (hz : ¬ z < 0) (hl : z.toNatClampNeg = vs.length)
    (h3 : ∀ (i : Nat) (hi : i < vs.length), (Term.elem t (.int (Int32.ofNat i))).eval args s none [] s = some vs[i]) (hbig : vs.length < 2 ^ 31) : ∃ kc, Arv s s.heap x kc ty z vs dv := by
  obtain ⟨cl, A⟩ := Arr.start ht h1
  obtain ⟨q1, q2⟩ := lenI ht A h2
  have hsz : cl.slots.size = vs.length := by
    rw [← hl, ← q2, Int32.toNatClampNeg, len_toInt q1]; simp
  have hat : ∀ (i : Nat) (hi : i < vs.length), cl.slots[i]? = some vs[i] := fun i hi => by
    have e := elemI ht A (h3 i hi)
    have ei : (Int32.ofNat i).toNatClampNeg = i := by
      have : (Int32.ofNat i).toInt = i := Int32.toInt_ofNat_small (by omega)
      rw [Int32.toNatClampNeg, this]; simp
    rw [ei] at e
    exact e
  refine ⟨cl.cls, cl, A, rfl, hsz.trans hl.symm, hz, fun i hi => ?_, fun i hi => ?_⟩
  · have hi' : i < vs.length := by omega
    rw [hat i hi', List.getD_eq_getElem?_getD, List.getElem?_eq_getElem hi']; rfl
  · have hi' : i < vs.length := by omega
    have ei : i.toInt32.toNatClampNeg = i := by
      have : (Int32.ofNat i).toInt = i := Int32.toInt_ofNat_small (by omega)
      show (Int32.ofNat i).toNatClampNeg = i
      rw [Int32.toNatClampNeg, this]; simp
    have e : cl.slots[i.toInt32.toNatClampNeg]? = some (vs.getD i dv) := by rw [ei, hat i hi', List.getD_eq_getElem?_getD, List.getElem?_eq_getElem hi']; rfl
    exact elem_fits hfit A (idx_in (by omega) q1) e
theorem fld_start {C n d : String} {v : Value} (ht : t.eval args s none [] s = some (.ref x)) (h : (Term.field t C n d).eval args s none [] s = some v) : Fld s s.heap x C n d v := Fld.start ((fld_at ht).symm.trans h)
end Words
end Ow
end Jvm.Pilot.@@N@@
namespace Jvm.Pilot.@@N@@
open Jvm Jvm.ClassFile Sem Op Lib Jvm.Free Jvm.Stand Jvm.LawKit Jvm.RoadKit Bundle Jvm.Pilot.@@N@@.Jvm.D Ow
theorem d_jdk_52_method_4_0 : decode jdk_52_method_4_code 0 = .ok (.getstatic 44, 3) := by decide +kernel
theorem d_jdk_52_method_4_3 : decode jdk_52_method_4_code 3 = .ok (.ifCond .ne 25, 3) := by decide +kernel
theorem d_jdk_52_method_4_28 : decode jdk_52_method_4_code 28 = .ok (.iload_n 1, 1) := by decide +kernel
theorem d_jdk_52_method_4_29 : decode jdk_52_method_4_code 29 = .ok (.iconst 1, 1) := by decide +kernel
theorem d_jdk_52_method_4_30 : decode jdk_52_method_4_code 30 = .ok (.ishl, 1) := by decide +kernel
theorem d_jdk_52_method_4_31 : decode jdk_52_method_4_code 31 = .ok (.istore_n 1, 1) := by decide +kernel
theorem d_jdk_52_method_4_32 : decode jdk_52_method_4_code 32 = .ok (.aload_n 0, 1) := by decide +kernel
theorem d_jdk_52_method_4_33 : decode jdk_52_method_4_code 33 = .ok (.iload_n 1, 1) := by decide +kernel
theorem d_jdk_52_method_4_34 : decode jdk_52_method_4_code 34 = .ok (.iinc 1 1, 3) := by decide +kernel
theorem d_jdk_52_method_4_37 : decode jdk_52_method_4_code 37 = .ok (.iload_n 2, 1) := by decide +kernel
theorem d_jdk_52_method_4_38 : decode jdk_52_method_4_code 38 = .ok (.getstatic 59, 3) := by decide +kernel
theorem d_jdk_52_method_4_41 : decode jdk_52_method_4_code 41 = .ok (.ishr, 1) := by decide +kernel
theorem d_jdk_52_method_4_42 : decode jdk_52_method_4_code 42 = .ok (.i2b, 1) := by decide +kernel
theorem d_jdk_52_method_4_43 : decode jdk_52_method_4_code 43 = .ok (.bastore, 1) := by decide +kernel
theorem d_jdk_52_method_4_44 : decode jdk_52_method_4_code 44 = .ok (.aload_n 0, 1) := by decide +kernel
theorem d_jdk_52_method_4_45 : decode jdk_52_method_4_code 45 = .ok (.iload_n 1, 1) := by decide +kernel
theorem d_jdk_52_method_4_46 : decode jdk_52_method_4_code 46 = .ok (.iload_n 2, 1) := by decide +kernel
theorem d_jdk_52_method_4_47 : decode jdk_52_method_4_code 47 = .ok (.getstatic 63, 3) := by decide +kernel
theorem d_jdk_52_method_4_50 : decode jdk_52_method_4_code 50 = .ok (.ishr, 1) := by decide +kernel
theorem d_jdk_52_method_4_51 : decode jdk_52_method_4_code 51 = .ok (.i2b, 1) := by decide +kernel
theorem d_jdk_52_method_4_52 : decode jdk_52_method_4_code 52 = .ok (.bastore, 1) := by decide +kernel
theorem d_jdk_52_method_4_53 : decode jdk_52_method_4_code 53 = .ok (.return_, 1) := by decide +kernel
theorem d_jdk_52_method_5_0 : decode jdk_52_method_5_code 0 = .ok (.getstatic 44, 3) := by decide +kernel
theorem d_jdk_52_method_5_3 : decode jdk_52_method_5_code 3 = .ok (.ifCond .ne 25, 3) := by decide +kernel
theorem d_jdk_52_method_5_28 : decode jdk_52_method_5_code 28 = .ok (.iload_n 1, 1) := by decide +kernel
theorem d_jdk_52_method_5_29 : decode jdk_52_method_5_code 29 = .ok (.iconst 1, 1) := by decide +kernel
theorem d_jdk_52_method_5_30 : decode jdk_52_method_5_code 30 = .ok (.ishl, 1) := by decide +kernel
theorem d_jdk_52_method_5_31 : decode jdk_52_method_5_code 31 = .ok (.istore_n 1, 1) := by decide +kernel
theorem d_jdk_52_method_5_32 : decode jdk_52_method_5_code 32 = .ok (.aload_n 0, 1) := by decide +kernel
theorem d_jdk_52_method_5_33 : decode jdk_52_method_5_code 33 = .ok (.iload_n 1, 1) := by decide +kernel
theorem d_jdk_52_method_5_34 : decode jdk_52_method_5_code 34 = .ok (.iinc 1 1, 3) := by decide +kernel
theorem d_jdk_52_method_5_37 : decode jdk_52_method_5_code 37 = .ok (.baload, 1) := by decide +kernel
theorem d_jdk_52_method_5_38 : decode jdk_52_method_5_code 38 = .ok (.sipush 255, 3) := by decide +kernel
theorem d_jdk_52_method_5_41 : decode jdk_52_method_5_code 41 = .ok (.iand, 1) := by decide +kernel
theorem d_jdk_52_method_5_42 : decode jdk_52_method_5_code 42 = .ok (.getstatic 59, 3) := by decide +kernel
theorem d_jdk_52_method_5_45 : decode jdk_52_method_5_code 45 = .ok (.ishl, 1) := by decide +kernel
theorem d_jdk_52_method_5_46 : decode jdk_52_method_5_code 46 = .ok (.aload_n 0, 1) := by decide +kernel
theorem d_jdk_52_method_5_47 : decode jdk_52_method_5_code 47 = .ok (.iload_n 1, 1) := by decide +kernel
theorem d_jdk_52_method_5_48 : decode jdk_52_method_5_code 48 = .ok (.baload, 1) := by decide +kernel
theorem d_jdk_52_method_5_49 : decode jdk_52_method_5_code 49 = .ok (.sipush 255, 3) := by decide +kernel
theorem d_jdk_52_method_5_52 : decode jdk_52_method_5_code 52 = .ok (.iand, 1) := by decide +kernel
theorem d_jdk_52_method_5_53 : decode jdk_52_method_5_code 53 = .ok (.getstatic 63, 3) := by decide +kernel
theorem d_jdk_52_method_5_56 : decode jdk_52_method_5_code 56 = .ok (.ishl, 1) := by decide +kernel
theorem d_jdk_52_method_5_57 : decode jdk_52_method_5_code 57 = .ok (.ior, 1) := by decide +kernel
theorem d_jdk_52_method_5_58 : decode jdk_52_method_5_code 58 = .ok (.i2c, 1) := by decide +kernel
theorem d_jdk_52_method_5_59 : decode jdk_52_method_5_code 59 = .ok (.ireturn, 1) := by decide +kernel
theorem d_jdk_52_method_3_0 : decode jdk_52_method_3_code 0 = .ok (.iload_n 0, 1) := by decide +kernel
theorem d_jdk_52_method_3_1 : decode jdk_52_method_3_code 1 = .ok (.ifCond .ge 11, 3) := by decide +kernel
theorem d_jdk_52_method_3_12 : decode jdk_52_method_3_code 12 = .ok (.iload_n 0, 1) := by decide +kernel
theorem d_jdk_52_method_3_13 : decode jdk_52_method_3_code 13 = .ok (.ldc 20, 2) := by decide +kernel
theorem d_jdk_52_method_3_15 : decode jdk_52_method_3_code 15 = .ok (.if_icmp .lt 40, 3) := by decide +kernel
theorem d_jdk_52_method_3_55 : decode jdk_52_method_3_code 55 = .ok (.iload_n 0, 1) := by decide +kernel
theorem d_jdk_52_method_3_56 : decode jdk_52_method_3_code 56 = .ok (.iconst 1, 1) := by decide +kernel
theorem d_jdk_52_method_3_57 : decode jdk_52_method_3_code 57 = .ok (.ishl, 1) := by decide +kernel
theorem d_jdk_52_method_3_58 : decode jdk_52_method_3_code 58 = .ok (.ireturn, 1) := by decide +kernel
theorem d_jdk_52_method_2_0 : decode jdk_52_method_2_code 0 = .ok (.iload_n 0, 1) := by decide +kernel
theorem d_jdk_52_method_2_1 : decode jdk_52_method_2_code 1 = .ok (.invokestatic 11, 3) := by decide +kernel
theorem d_jdk_52_method_2_4 : decode jdk_52_method_2_code 4 = .ok (.newarray .byte, 2) := by decide +kernel
theorem d_jdk_52_method_2_6 : decode jdk_52_method_2_code 6 = .ok (.areturn, 1) := by decide +kernel
theorem d_jdk_52_method_14_0 : decode jdk_52_method_14_code 0 = .ok (.iload_n 2, 1) := by decide +kernel
theorem d_jdk_52_method_14_1 : decode jdk_52_method_14_code 1 = .ok (.invokestatic 107, 3) := by decide +kernel
theorem d_jdk_52_method_14_4 : decode jdk_52_method_14_code 4 = .ok (.astore_n 3, 1) := by decide +kernel
theorem d_jdk_52_method_14_5 : decode jdk_52_method_14_code 5 = .ok (.iconst 0, 1) := by decide +kernel
theorem d_jdk_52_method_14_6 : decode jdk_52_method_14_code 6 = .ok (.istore 4, 2) := by decide +kernel
theorem d_jdk_52_method_14_8 : decode jdk_52_method_14_code 8 = .ok (.iload 4, 2) := by decide +kernel
theorem d_jdk_52_method_14_10 : decode jdk_52_method_14_code 10 = .ok (.iload_n 2, 1) := by decide +kernel
theorem d_jdk_52_method_14_11 : decode jdk_52_method_14_code 11 = .ok (.if_icmp .ge 21, 3) := by decide +kernel
theorem d_jdk_52_method_14_14 : decode jdk_52_method_14_code 14 = .ok (.aload_n 3, 1) := by decide +kernel
theorem d_jdk_52_method_14_15 : decode jdk_52_method_14_code 15 = .ok (.iload 4, 2) := by decide +kernel
theorem d_jdk_52_method_14_17 : decode jdk_52_method_14_code 17 = .ok (.aload_n 0, 1) := by decide +kernel
theorem d_jdk_52_method_14_18 : decode jdk_52_method_14_code 18 = .ok (.iload_n 1, 1) := by decide +kernel
theorem d_jdk_52_method_14_19 : decode jdk_52_method_14_code 19 = .ok (.caload, 1) := by decide +kernel
theorem d_jdk_52_method_14_20 : decode jdk_52_method_14_code 20 = .ok (.invokestatic 111, 3) := by decide +kernel
theorem d_jdk_52_method_14_23 : decode jdk_52_method_14_code 23 = .ok (.iinc 1 1, 3) := by decide +kernel
theorem d_jdk_52_method_14_26 : decode jdk_52_method_14_code 26 = .ok (.iinc 4 1, 3) := by decide +kernel
theorem d_jdk_52_method_14_29 : decode jdk_52_method_14_code 29 = .ok (.goto (-21), 3) := by decide +kernel
theorem d_jdk_52_method_14_32 : decode jdk_52_method_14_code 32 = .ok (.aload_n 3, 1) := by decide +kernel
theorem d_jdk_52_method_14_33 : decode jdk_52_method_14_code 33 = .ok (.areturn, 1) := by decide +kernel
theorem d_jdk_52_method_21_0 : decode jdk_52_method_21_code 0 = .ok (.iconst 0, 1) := by decide +kernel
theorem d_jdk_52_method_21_1 : decode jdk_52_method_21_code 1 = .ok (.istore 5, 2) := by decide +kernel
theorem d_jdk_52_method_21_3 : decode jdk_52_method_21_code 3 = .ok (.iload 5, 2) := by decide +kernel
theorem d_jdk_52_method_21_5 : decode jdk_52_method_21_code 5 = .ok (.iload 4, 2) := by decide +kernel
theorem d_jdk_52_method_21_7 : decode jdk_52_method_21_code 7 = .ok (.if_icmp .ge 37, 3) := by decide +kernel
theorem d_jdk_52_method_21_10 : decode jdk_52_method_21_code 10 = .ok (.aload_n 0, 1) := by decide +kernel
theorem d_jdk_52_method_21_11 : decode jdk_52_method_21_code 11 = .ok (.iload_n 1, 1) := by decide +kernel
theorem d_jdk_52_method_21_12 : decode jdk_52_method_21_code 12 = .ok (.caload, 1) := by decide +kernel
theorem d_jdk_52_method_21_13 : decode jdk_52_method_21_code 13 = .ok (.istore 6, 2) := by decide +kernel
theorem d_jdk_52_method_21_15 : decode jdk_52_method_21_code 15 = .ok (.iload 6, 2) := by decide +kernel
theorem d_jdk_52_method_21_17 : decode jdk_52_method_21_code 17 = .ok (.sipush 255, 3) := by decide +kernel
theorem d_jdk_52_method_21_20 : decode jdk_52_method_21_code 20 = .ok (.if_icmp .le 6, 3) := by decide +kernel
theorem d_jdk_52_method_21_23 : decode jdk_52_method_21_code 23 = .ok (.iload 5, 2) := by decide +kernel
theorem d_jdk_52_method_21_25 : decode jdk_52_method_21_code 25 = .ok (.ireturn, 1) := by decide +kernel
theorem d_jdk_52_method_21_26 : decode jdk_52_method_21_code 26 = .ok (.aload_n 2, 1) := by decide +kernel
theorem d_jdk_52_method_21_27 : decode jdk_52_method_21_code 27 = .ok (.iload_n 3, 1) := by decide +kernel
theorem d_jdk_52_method_21_28 : decode jdk_52_method_21_code 28 = .ok (.iload 6, 2) := by decide +kernel
theorem d_jdk_52_method_21_30 : decode jdk_52_method_21_code 30 = .ok (.i2b, 1) := by decide +kernel
theorem d_jdk_52_method_21_31 : decode jdk_52_method_21_code 31 = .ok (.bastore, 1) := by decide +kernel
theorem d_jdk_52_method_21_32 : decode jdk_52_method_21_code 32 = .ok (.iinc 1 1, 3) := by decide +kernel
theorem d_jdk_52_method_21_35 : decode jdk_52_method_21_code 35 = .ok (.iinc 3 1, 3) := by decide +kernel
theorem d_jdk_52_method_21_38 : decode jdk_52_method_21_code 38 = .ok (.iinc 5 1, 3) := by decide +kernel
theorem d_jdk_52_method_21_41 : decode jdk_52_method_21_code 41 = .ok (.goto (-38), 3) := by decide +kernel
theorem d_jdk_52_method_16_0 : decode jdk_52_method_16_code 0 = .ok (.iload_n 2, 1) := by decide +kernel
theorem d_jdk_52_method_16_1 : decode jdk_52_method_16_code 1 = .ok (.newarray .byte, 2) := by decide +kernel
theorem d_jdk_52_method_16_3 : decode jdk_52_method_16_code 3 = .ok (.astore_n 3, 1) := by decide +kernel
theorem d_jdk_52_method_16_4 : decode jdk_52_method_16_code 4 = .ok (.aload_n 0, 1) := by decide +kernel
theorem d_jdk_52_method_16_5 : decode jdk_52_method_16_code 5 = .ok (.iload_n 1, 1) := by decide +kernel
theorem d_jdk_52_method_16_6 : decode jdk_52_method_16_code 6 = .ok (.aload_n 3, 1) := by decide +kernel
theorem d_jdk_52_method_16_7 : decode jdk_52_method_16_code 7 = .ok (.iconst 0, 1) := by decide +kernel
theorem d_jdk_52_method_16_8 : decode jdk_52_method_16_code 8 = .ok (.iload_n 2, 1) := by decide +kernel
theorem d_jdk_52_method_16_9 : decode jdk_52_method_16_code 9 = .ok (.invokestatic 115, 3) := by decide +kernel
theorem d_jdk_52_method_16_12 : decode jdk_52_method_16_code 12 = .ok (.istore 4, 2) := by decide +kernel
theorem d_jdk_52_method_16_14 : decode jdk_52_method_16_code 14 = .ok (.iload 4, 2) := by decide +kernel
theorem d_jdk_52_method_16_16 : decode jdk_52_method_16_code 16 = .ok (.iload_n 2, 1) := by decide +kernel
theorem d_jdk_52_method_16_17 : decode jdk_52_method_16_code 17 = .ok (.if_icmp .eq 40, 3) := by decide +kernel
theorem d_jdk_52_method_16_20 : decode jdk_52_method_16_code 20 = .ok (.aload_n 0, 1) := by decide +kernel
theorem d_jdk_52_method_16_21 : decode jdk_52_method_16_code 21 = .ok (.iload_n 1, 1) := by decide +kernel
theorem d_jdk_52_method_16_22 : decode jdk_52_method_16_code 22 = .ok (.iload_n 2, 1) := by decide +kernel
theorem d_jdk_52_method_16_23 : decode jdk_52_method_16_code 23 = .ok (.invokestatic 119, 3) := by decide +kernel
theorem d_jdk_52_method_16_26 : decode jdk_52_method_16_code 26 = .ok (.astore 5, 2) := by decide +kernel
theorem d_jdk_52_method_16_28 : decode jdk_52_method_16_code 28 = .ok (.aload 5, 2) := by decide +kernel
theorem d_jdk_52_method_16_30 : decode jdk_52_method_16_code 30 = .ok (.iload 4, 2) := by decide +kernel
theorem d_jdk_52_method_16_32 : decode jdk_52_method_16_code 32 = .ok (.invokestatic 71, 3) := by decide +kernel
theorem d_jdk_52_method_16_35 : decode jdk_52_method_16_code 35 = .ok (.sipush 255, 3) := by decide +kernel
theorem d_jdk_52_method_16_38 : decode jdk_52_method_16_code 38 = .ok (.if_icmp .gt 16, 3) := by decide +kernel
theorem d_jdk_52_method_16_54 : decode jdk_52_method_16_code 54 = .ok (.aload 5, 2) := by decide +kernel
theorem d_jdk_52_method_16_56 : decode jdk_52_method_16_code 56 = .ok (.areturn, 1) := by decide +kernel
theorem d_jdk_52_method_15_0 : decode jdk_52_method_15_code 0 = .ok (.iload_n 1, 1) := by decide +kernel
theorem d_jdk_52_method_15_1 : decode jdk_52_method_15_code 1 = .ok (.aload_n 0, 1) := by decide +kernel
theorem d_jdk_52_method_15_2 : decode jdk_52_method_15_code 2 = .ok (.arraylength, 1) := by decide +kernel
theorem d_jdk_52_method_15_3 : decode jdk_52_method_15_code 3 = .ok (.isub, 1) := by decide +kernel
theorem d_jdk_52_method_15_4 : decode jdk_52_method_15_code 4 = .ok (.bipush 31, 2) := by decide +kernel
theorem d_jdk_52_method_15_6 : decode jdk_52_method_15_code 6 = .ok (.iushr, 1) := by decide +kernel
theorem d_jdk_52_method_15_7 : decode jdk_52_method_15_code 7 = .ok (.i2b, 1) := by decide +kernel
theorem d_jdk_52_method_15_8 : decode jdk_52_method_15_code 8 = .ok (.ireturn, 1) := by decide +kernel
theorem d_jdk_42_method_149_0 : decode jdk_42_method_149_code 0 = .ok (.aload_n 0, 1) := by decide +kernel
theorem d_jdk_42_method_149_1 : decode jdk_42_method_149_code 1 = .ok (.invokespecial 1, 3) := by decide +kernel
theorem d_jdk_42_method_149_4 : decode jdk_42_method_149_code 4 = .ok (.iload_n 3, 1) := by decide +kernel
theorem d_jdk_42_method_149_5 : decode jdk_42_method_149_code 5 = .ok (.ifCond .ne 22, 3) := by decide +kernel
theorem d_jdk_42_method_149_27 : decode jdk_42_method_149_code 27 = .ok (.getstatic 38, 3) := by decide +kernel
theorem d_jdk_42_method_149_30 : decode jdk_42_method_149_code 30 = .ok (.ifCond .eq 28, 3) := by decide +kernel
theorem d_jdk_42_method_149_33 : decode jdk_42_method_149_code 33 = .ok (.aload_n 1, 1) := by decide +kernel
theorem d_jdk_42_method_149_34 : decode jdk_42_method_149_code 34 = .ok (.iload_n 2, 1) := by decide +kernel
theorem d_jdk_42_method_149_35 : decode jdk_42_method_149_code 35 = .ok (.iload_n 3, 1) := by decide +kernel
theorem d_jdk_42_method_149_36 : decode jdk_42_method_149_code 36 = .ok (.invokestatic 177, 3) := by decide +kernel
theorem d_jdk_42_method_149_39 : decode jdk_42_method_149_code 39 = .ok (.astore 5, 2) := by decide +kernel
theorem d_jdk_42_method_149_41 : decode jdk_42_method_149_code 41 = .ok (.aload_n 0, 1) := by decide +kernel
theorem d_jdk_42_method_149_42 : decode jdk_42_method_149_code 42 = .ok (.aload 5, 2) := by decide +kernel
theorem d_jdk_42_method_149_44 : decode jdk_42_method_149_code 44 = .ok (.iload_n 3, 1) := by decide +kernel
theorem d_jdk_42_method_149_45 : decode jdk_42_method_149_code 45 = .ok (.invokestatic 47, 3) := by decide +kernel
theorem d_jdk_42_method_149_48 : decode jdk_42_method_149_code 48 = .ok (.putfield 15, 3) := by decide +kernel
theorem d_jdk_42_method_149_51 : decode jdk_42_method_149_code 51 = .ok (.aload_n 0, 1) := by decide +kernel
theorem d_jdk_42_method_149_52 : decode jdk_42_method_149_code 52 = .ok (.aload 5, 2) := by decide +kernel
theorem d_jdk_42_method_149_54 : decode jdk_42_method_149_code 54 = .ok (.putfield 9, 3) := by decide +kernel
theorem d_jdk_42_method_149_57 : decode jdk_42_method_149_code 57 = .ok (.return_, 1) := by decide +kernel
theorem d_jdk_42_method_3_0 : decode jdk_42_method_3_code 0 = .ok (.aload_n 0, 1) := by decide +kernel
theorem d_jdk_42_method_3_1 : decode jdk_42_method_3_code 1 = .ok (.aload_n 1, 1) := by decide +kernel
theorem d_jdk_42_method_3_2 : decode jdk_42_method_3_code 2 = .ok (.iconst 0, 1) := by decide +kernel
theorem d_jdk_42_method_3_3 : decode jdk_42_method_3_code 3 = .ok (.aload_n 1, 1) := by decide +kernel
theorem d_jdk_42_method_3_4 : decode jdk_42_method_3_code 4 = .ok (.arraylength, 1) := by decide +kernel
theorem d_jdk_42_method_3_5 : decode jdk_42_method_3_code 5 = .ok (.aconst_null, 1) := by decide +kernel
theorem d_jdk_42_method_3_6 : decode jdk_42_method_3_code 6 = .ok (.invokespecial 27, 3) := by decide +kernel
theorem d_jdk_42_method_3_9 : decode jdk_42_method_3_code 9 = .ok (.return_, 1) := by decide +kernel
theorem d_jdk_42_method_154_0 : decode jdk_42_method_154_code 0 = .ok (.getstatic 38, 3) := by decide +kernel
theorem d_jdk_42_method_154_3 : decode jdk_42_method_154_code 3 = .ok (.ifCond .eq 14, 3) := by decide +kernel
theorem d_jdk_42_method_154_6 : decode jdk_42_method_154_code 6 = .ok (.aload_n 0, 1) := by decide +kernel
theorem d_jdk_42_method_154_7 : decode jdk_42_method_154_code 7 = .ok (.getfield 15, 3) := by decide +kernel
theorem d_jdk_42_method_154_10 : decode jdk_42_method_154_code 10 = .ok (.ifCond .ne 7, 3) := by decide +kernel
theorem d_jdk_42_method_154_17 : decode jdk_42_method_154_code 17 = .ok (.iconst 0, 1) := by decide +kernel
theorem d_jdk_42_method_154_18 : decode jdk_42_method_154_code 18 = .ok (.ireturn, 1) := by decide +kernel
theorem d_jdk_41_method_11_0 : decode jdk_41_method_11_code 0 = .ok (.iload_n 0, 1) := by decide +kernel
theorem d_jdk_41_method_11_1 : decode jdk_41_method_11_code 1 = .ok (.ifCond .lt 8, 3) := by decide +kernel
theorem d_jdk_41_method_11_4 : decode jdk_41_method_11_code 4 = .ok (.iload_n 0, 1) := by decide +kernel
theorem d_jdk_41_method_11_5 : decode jdk_41_method_11_code 5 = .ok (.iload_n 1, 1) := by decide +kernel
theorem d_jdk_41_method_11_6 : decode jdk_41_method_11_code 6 = .ok (.if_icmp .lt 10, 3) := by decide +kernel
theorem d_jdk_41_method_11_16 : decode jdk_41_method_11_code 16 = .ok (.iload_n 0, 1) := by decide +kernel
theorem d_jdk_41_method_11_17 : decode jdk_41_method_11_code 17 = .ok (.ireturn, 1) := by decide +kernel
theorem d_jdk_42_method_155_0 : decode jdk_42_method_155_code 0 = .ok (.iload_n 0, 1) := by decide +kernel
theorem d_jdk_42_method_155_1 : decode jdk_42_method_155_code 1 = .ok (.iload_n 1, 1) := by decide +kernel
theorem d_jdk_42_method_155_2 : decode jdk_42_method_155_code 2 = .ok (.getstatic 1053, 3) := by decide +kernel
theorem d_jdk_42_method_155_5 : decode jdk_42_method_155_code 5 = .ok (.invokestatic 1059, 3) := by decide +kernel
theorem d_jdk_42_method_155_8 : decode jdk_42_method_155_code 8 = .ok (.pop, 1) := by decide +kernel
theorem d_jdk_42_method_155_9 : decode jdk_42_method_155_code 9 = .ok (.return_, 1) := by decide +kernel
theorem d_jdk_52_method_6_0 : decode jdk_52_method_6_code 0 = .ok (.aload_n 0, 1) := by decide +kernel
theorem d_jdk_52_method_6_1 : decode jdk_52_method_6_code 1 = .ok (.arraylength, 1) := by decide +kernel
theorem d_jdk_52_method_6_2 : decode jdk_52_method_6_code 2 = .ok (.iconst 1, 1) := by decide +kernel
theorem d_jdk_52_method_6_3 : decode jdk_52_method_6_code 3 = .ok (.ishr, 1) := by decide +kernel
theorem d_jdk_52_method_6_4 : decode jdk_52_method_6_code 4 = .ok (.ireturn, 1) := by decide +kernel
theorem d_jdk_52_method_91_0 : decode jdk_52_method_91_code 0 = .ok (.iload_n 0, 1) := by decide +kernel
theorem d_jdk_52_method_91_1 : decode jdk_52_method_91_code 1 = .ok (.aload_n 1, 1) := by decide +kernel
theorem d_jdk_52_method_91_2 : decode jdk_52_method_91_code 2 = .ok (.invokestatic 48, 3) := by decide +kernel
theorem d_jdk_52_method_91_5 : decode jdk_52_method_91_code 5 = .ok (.invokestatic 414, 3) := by decide +kernel
theorem d_jdk_52_method_91_8 : decode jdk_52_method_91_code 8 = .ok (.return_, 1) := by decide +kernel
theorem d_jdk_52_method_83_0 : decode jdk_52_method_83_code 0 = .ok (.iload_n 1, 1) := by decide +kernel
theorem d_jdk_52_method_83_1 : decode jdk_52_method_83_code 1 = .ok (.aload_n 0, 1) := by decide +kernel
theorem d_jdk_52_method_83_2 : decode jdk_52_method_83_code 2 = .ok (.invokestatic 67, 3) := by decide +kernel
theorem d_jdk_52_method_83_5 : decode jdk_52_method_83_code 5 = .ok (.aload_n 0, 1) := by decide +kernel
theorem d_jdk_52_method_83_6 : decode jdk_52_method_83_code 6 = .ok (.iload_n 1, 1) := by decide +kernel
theorem d_jdk_52_method_83_7 : decode jdk_52_method_83_code 7 = .ok (.invokestatic 71, 3) := by decide +kernel
theorem d_jdk_52_method_83_10 : decode jdk_52_method_83_code 10 = .ok (.ireturn, 1) := by decide +kernel
theorem d_jdk_42_method_56_0 : decode jdk_42_method_56_code 0 = .ok (.aload_n 0, 1) := by decide +kernel
theorem d_jdk_42_method_56_1 : decode jdk_42_method_56_code 1 = .ok (.invokevirtual 492, 3) := by decide +kernel
theorem d_jdk_42_method_56_4 : decode jdk_42_method_56_code 4 = .ok (.ifCond .eq 12, 3) := by decide +kernel
theorem d_jdk_42_method_56_16 : decode jdk_42_method_56_code 16 = .ok (.aload_n 0, 1) := by decide +kernel
theorem d_jdk_42_method_56_17 : decode jdk_42_method_56_code 17 = .ok (.getfield 9, 3) := by decide +kernel
theorem d_jdk_42_method_56_20 : decode jdk_42_method_56_code 20 = .ok (.iload_n 1, 1) := by decide +kernel
theorem d_jdk_42_method_56_21 : decode jdk_42_method_56_code 21 = .ok (.invokestatic 498, 3) := by decide +kernel
theorem d_jdk_42_method_56_24 : decode jdk_42_method_56_code 24 = .ok (.ireturn, 1) := by decide +kernel
theorem d_prog_34_method_2_0 : decode prog_34_method_2_code 0 = .ok (.iload_n 1, 1) := by decide +kernel
theorem d_prog_34_method_2_1 : decode prog_34_method_2_code 1 = .ok (.iload_n 2, 1) := by decide +kernel
theorem d_prog_34_method_2_2 : decode prog_34_method_2_code 2 = .ok (.if_icmp .lt 5, 3) := by decide +kernel
theorem d_prog_34_method_2_5 : decode prog_34_method_2_code 5 = .ok (.iconst 0, 1) := by decide +kernel
theorem d_prog_34_method_2_6 : decode prog_34_method_2_code 6 = .ok (.ireturn, 1) := by decide +kernel
theorem d_prog_34_method_2_7 : decode prog_34_method_2_code 7 = .ok (.iload_n 1, 1) := by decide +kernel
theorem d_prog_34_method_2_8 : decode prog_34_method_2_code 8 = .ok (.istore_n 3, 1) := by decide +kernel
theorem d_prog_34_method_2_9 : decode prog_34_method_2_code 9 = .ok (.iload_n 3, 1) := by decide +kernel
theorem d_prog_34_method_2_10 : decode prog_34_method_2_code 10 = .ok (.iload_n 2, 1) := by decide +kernel
theorem d_prog_34_method_2_11 : decode prog_34_method_2_code 11 = .ok (.if_icmp .ge 34, 3) := by decide +kernel
theorem d_prog_34_method_2_14 : decode prog_34_method_2_code 14 = .ok (.aload_n 0, 1) := by decide +kernel
theorem d_prog_34_method_2_15 : decode prog_34_method_2_code 15 = .ok (.iload_n 3, 1) := by decide +kernel
theorem d_prog_34_method_2_16 : decode prog_34_method_2_code 16 = .ok (.invokeinterface 7 2, 5) := by decide +kernel
theorem d_prog_34_method_2_21 : decode prog_34_method_2_code 21 = .ok (.istore 4, 2) := by decide +kernel
theorem d_prog_34_method_2_23 : decode prog_34_method_2_code 23 = .ok (.iload 4, 2) := by decide +kernel
theorem d_prog_34_method_2_25 : decode prog_34_method_2_code 25 = .ok (.bipush 48, 2) := by decide +kernel
theorem d_prog_34_method_2_27 : decode prog_34_method_2_code 27 = .ok (.if_icmp .lt 10, 3) := by decide +kernel
theorem d_prog_34_method_2_30 : decode prog_34_method_2_code 30 = .ok (.iload 4, 2) := by decide +kernel
theorem d_prog_34_method_2_32 : decode prog_34_method_2_code 32 = .ok (.bipush 57, 2) := by decide +kernel
theorem d_prog_34_method_2_34 : decode prog_34_method_2_code 34 = .ok (.if_icmp .le 5, 3) := by decide +kernel
theorem d_prog_34_method_2_37 : decode prog_34_method_2_code 37 = .ok (.iconst 0, 1) := by decide +kernel
theorem d_prog_34_method_2_38 : decode prog_34_method_2_code 38 = .ok (.ireturn, 1) := by decide +kernel
theorem d_prog_34_method_2_39 : decode prog_34_method_2_code 39 = .ok (.iinc 3 1, 3) := by decide +kernel
theorem d_prog_34_method_2_42 : decode prog_34_method_2_code 42 = .ok (.goto (-33), 3) := by decide +kernel
theorem d_prog_34_method_2_45 : decode prog_34_method_2_code 45 = .ok (.iconst 1, 1) := by decide +kernel
theorem d_prog_34_method_2_46 : decode prog_34_method_2_code 46 = .ok (.ireturn, 1) := by decide +kernel
theorem d_method_3_0 : decode method_3_code 0 = .ok (.iload_n 0, 1) := by decide +kernel
theorem d_method_3_1 : decode method_3_code 1 = .ok (.bipush 48, 2) := by decide +kernel
theorem d_method_3_3 : decode method_3_code 3 = .ok (.isub, 1) := by decide +kernel
theorem d_method_3_4 : decode method_3_code 4 = .ok (.istore_n 1, 1) := by decide +kernel
theorem d_method_3_5 : decode method_3_code 5 = .ok (.iload_n 1, 1) := by decide +kernel
theorem d_method_3_6 : decode method_3_code 6 = .ok (.ifCond .lt 13, 3) := by decide +kernel
theorem d_method_3_9 : decode method_3_code 9 = .ok (.iload_n 1, 1) := by decide +kernel
theorem d_method_3_10 : decode method_3_code 10 = .ok (.bipush 10, 2) := by decide +kernel
theorem d_method_3_12 : decode method_3_code 12 = .ok (.if_icmp .ge 7, 3) := by decide +kernel
theorem d_method_3_15 : decode method_3_code 15 = .ok (.iconst 1, 1) := by decide +kernel
theorem d_method_3_16 : decode method_3_code 16 = .ok (.goto 4, 3) := by decide +kernel
theorem d_method_3_19 : decode method_3_code 19 = .ok (.iconst 0, 1) := by decide +kernel
theorem d_method_3_20 : decode method_3_code 20 = .ok (.ireturn, 1) := by decide +kernel
theorem d_method_4_0 : decode method_4_code 0 = .ok (.iload_n 1, 1) := by decide +kernel
theorem d_method_4_1 : decode method_4_code 1 = .ok (.iload_n 2, 1) := by decide +kernel
theorem d_method_4_2 : decode method_4_code 2 = .ok (.if_icmp .ge 5, 3) := by decide +kernel
theorem d_method_4_5 : decode method_4_code 5 = .ok (.iconst 1, 1) := by decide +kernel
theorem d_method_4_6 : decode method_4_code 6 = .ok (.ireturn, 1) := by decide +kernel
theorem d_method_4_7 : decode method_4_code 7 = .ok (.iload_n 1, 1) := by decide +kernel
theorem d_method_4_8 : decode method_4_code 8 = .ok (.iload_n 3, 1) := by decide +kernel
theorem d_method_4_9 : decode method_4_code 9 = .ok (.if_icmp .lt 5, 3) := by decide +kernel
theorem d_method_4_12 : decode method_4_code 12 = .ok (.iconst 1, 1) := by decide +kernel
theorem d_method_4_13 : decode method_4_code 13 = .ok (.ireturn, 1) := by decide +kernel
theorem d_method_4_14 : decode method_4_code 14 = .ok (.iload_n 0, 1) := by decide +kernel
theorem d_method_4_15 : decode method_4_code 15 = .ok (.invokestatic 26, 3) := by decide +kernel
theorem d_method_4_18 : decode method_4_code 18 = .ok (.ireturn, 1) := by decide +kernel
theorem pd_0 : parseMethodDescriptor "(I)I" = some ⟨[.int], some .int⟩ := by decide +kernel
theorem pd_1 : parseMethodDescriptor "(I)[B" = some ⟨[.int], some (.array .byte)⟩ := by decide +kernel
theorem pd_2 : parseMethodDescriptor "([BII)V" = some ⟨[(.array .byte), .int, .int], none⟩ := by decide +kernel
theorem pd_3 : parseMethodDescriptor "([CI[BII)I" = some ⟨[(.array .char), .int, (.array .byte), .int, .int], some .int⟩ := by decide +kernel
theorem pd_4 : parseMethodDescriptor "([CII)[B" = some ⟨[(.array .char), .int, .int], some (.array .byte)⟩ := by decide +kernel
theorem pd_5 : parseMethodDescriptor "([BI)C" = some ⟨[(.array .byte), .int], some .char⟩ := by decide +kernel
theorem pd_6 : parseMethodDescriptor "([BI)B" = some ⟨[(.array .byte), .int], some .byte⟩ := by decide +kernel
theorem pd_7 : parseMethodDescriptor "([CIILjava/lang/Void;)V" = some ⟨[(.array .char), .int, .int, (.object "java/lang/Void")], none⟩ := by decide +kernel
theorem pd_8 : parseMethodDescriptor "(IILjava/util/function/BiFunction;)I" = some ⟨[.int, .int, (.object "java/util/function/BiFunction")], some .int⟩ := by decide +kernel
theorem pd_9 : parseMethodDescriptor "([B)I" = some ⟨[(.array .byte)], some .int⟩ := by decide +kernel
theorem pd_10 : parseMethodDescriptor "(II)V" = some ⟨[.int, .int], none⟩ := by decide +kernel
theorem pd_11 : parseMethodDescriptor "(I[B)V" = some ⟨[.int, (.array .byte)], none⟩ := by decide +kernel
theorem pd_12 : parseMethodDescriptor "()Z" = some ⟨[], some .boolean⟩ := by decide +kernel
theorem pd_13 : parseMethodDescriptor "(I)C" = some ⟨[.int], some .char⟩ := by decide +kernel
theorem pd_14 : parseMethodDescriptor "(C)Z" = some ⟨[.char], some .boolean⟩ := by decide +kernel
theorem pd_15 : parseMethodDescriptor "(Ljava/lang/CharSequence;II)Z" = some ⟨[(.object "java/lang/CharSequence"), .int, .int], some .boolean⟩ := by decide +kernel
theorem pd_16 : parseMethodDescriptor "(CIII)Z" = some ⟨[.char, .int, .int, .int], some .boolean⟩ := by decide +kernel
theorem pd_17 : parseMethodDescriptor "([C)V" = some ⟨[(.array .char)], none⟩ := by decide +kernel
abbrev lo8 := StrChars.lo8
abbrev hi8 := StrChars.hi8
def ch (x : Int32) : Prop := ¬ x < 0 ∧ ¬ (65535 : Int32) < x
theorem ch_to {x : Int32} (h : ch x) : 0 ≤ x.toInt ∧ x.toInt ≤ 65535 := by
  have hi := h.2
  have h0 := h.1
  rw [Int32.lt_iff_toInt_lt] at h0 hi
  have e1 : (65535 : Int32).toInt = 65535 := rfl
  have e0 : (0 : Int32).toInt = 0 := rfl
  omega
theorem ch_of {x : Int32} (h0 : 0 ≤ x.toInt) (h1 : x.toInt ≤ 65535) : ch x := by
  unfold ch
  rw [Int32.lt_iff_toInt_lt, Int32.lt_iff_toInt_lt]
  have e1 : (65535 : Int32).toInt = 65535 := rfl
  have e0 : (0 : Int32).toInt = 0 := rfl
  omega
theorem own_ch (x : Int32) : ch (x &&& 65535) := by
  have h := c_and x 65535 (by decide)
  exact ch_of h.1 h.2
theorem own_i2c {x : Int32} (h : ch x) : x.toUInt32.toUInt16.toUInt32.toInt32 = x := by
  have q := c_i2c x
  have r := ch_to h
  exact Int32.toInt_inj.mp (by omega)
theorem own_nar {x : Int32} (h : ch x) : nar .char x = x := own_i2c h
theorem own_nb (x : Int32) : nar .byte x.toInt8.toInt32 = x.toInt8.toInt32 := by simp [nar]
theorem own_lo (c : Int32) : nar .byte (c >>> ((0 : Int32) &&& 31)).toInt8.toInt32 = lo8 c := by rw [StrChars.shr0, own_nb]; rfl
theorem own_hi (c : Int32) : nar .byte (c >>> ((8 : Int32) &&& 31)).toInt8.toInt32 = hi8 c := by rw [own_nb]; rfl
theorem own_ref {v : Value} (h : v.isRef = true) : v = .null ∨ ∃ r, v = .ref r := by
  cases v <;> first | exact Or.inl rfl | exact Or.inr ⟨_, rfl⟩ | cases h
theorem own_lt : ∀ f, f < 5 → ∀ e, e < 5 → (Int32.ofNat f < Int32.ofNat e ↔ f < e) := by decide
theorem own_d1 : ∀ n, n < 5 → Int32.ofNat n + 1 = Int32.ofNat (n + 1) := by decide
theorem own_rem {x : Int32} (hx : 0 ≤ x.toInt) : ∃ r, r < 5 ∧ x % 5 = Int32.ofNat r := by
  have q := (c_irem x 5 5 rfl).1 hx
  have hr0 : 0 ≤ x.toInt % 5 := Int.emod_nonneg _ (by decide)
  have hr1 : x.toInt % 5 < 5 := Int.emod_lt_of_pos _ (by decide)
  refine ⟨(x.toInt % 5).toNat, by omega, Int32.toInt_inj.mp ?_⟩
  rw [q]
  generalize x.toInt % 5 = m at hr0 hr1
  obtain ⟨w, rfl⟩ := Int.eq_ofNat_of_zero_le hr0
  have : w = 0 ∨ w = 1 ∨ w = 2 ∨ w = 3 ∨ w = 4 := by omega
  rcases this with rfl | rfl | rfl | rfl | rfl <;> rfl
def dig (c : Int32) : Prop := ¬ c < 48 ∧ ¬ (57 : Int32) < c
def dl (d0 d1 d2 d3 : Int32) : List Int32 := [d0, d1, d2, d3]
def wb (d0 d1 d2 d3 : Int32) : List Value := [.int (lo8 d0), .int (hi8 d0), .int (lo8 d1), .int (hi8 d1), .int (lo8 d2), .int (hi8 d2), .int (lo8 d3), .int (hi8 d3)]
/-- StringUTF16's statics -/
def Us (Z : State) : Prop := Sta Z Z.heap "java/lang/StringUTF16" "$assertionsDisabled" "Z" (.int (1 : Int32)) ∧ Sta Z Z.heap "java/lang/StringUTF16" "HI_BYTE_SHIFT" "I" (.int (0 : Int32)) ∧ Sta Z Z.heap "java/lang/StringUTF16" "LO_BYTE_SHIFT" "I" (.int (8 : Int32))
/-- a String of two bytes a char -/
def Wide (Z : State) (h : Heap) (x : Addr) (d0 d1 d2 d3 : Int32) : Prop := Exa Z h x ST ∧ Fld Z h x ST "coder" "B" (.int (1 : Int32)) ∧ ∃ (t : Addr) (kb : ClassId), Fld Z h x ST "value" "[B" (.ref t) ∧ Arv Z h t kb .byte (8 : Int32) (wb d0 d1 d2 d3) (.int (0 : Int32))
def Tx (Z : State) (h : Heap) (x : Addr) (d0 d1 d2 d3 : Int32) : Prop := Str Z h x (dl d0 d1 d2 d3) ∨ Wide Z h x d0 d1 d2 d3
theorem Tx.exa {Z : State} {h : Heap} {x : Addr} {d0 d1 d2 d3 : Int32} (T : Tx Z h x d0 d1 d2 d3) : Exa Z h x ST := T.elim (fun q => q.exa) fun q => q.1
theorem dig_iff {c : Int32} (h : ch c) : dig c ↔ ¬ (c - 48 < 0) ∧ c - 48 < 10 := by
  have r := ch_to h
  have q := c_isub c 48
  have e : (48 : Int32).toInt = 48 := rfl
  have e7 : (57 : Int32).toInt = 57 := rfl
  have e1 : (10 : Int32).toInt = 10 := rfl
  have e0 : (0 : Int32).toInt = 0 := rfl
  have s1 := Int32.toInt_lt (c - 48)
  have s2 := Int32.le_toInt (c - 48)
  unfold dig
  rw [Int32.lt_iff_toInt_lt, Int32.lt_iff_toInt_lt, Int32.lt_iff_toInt_lt, Int32.lt_iff_toInt_lt]
  rw [e] at q
  omega
set_option maxRecDepth 65536 in
set_option maxHeartbeats 40000000 in
theorem rm_put0 (l : Launch) (Z : State) (a0 : Array Value) (hw : ∀ d ∈ tables_1, d.before a0 Z = true) (hEL : EW Z a0 []) (n0 : Nat) (b : Addr) (kb : ClassId) (e0 e1 e2 e3 e4 e5 e6 e7 c : Int32) (h : Heap) (Ab : Arv Z h b kb .byte (8 : Int32) [(.int e0), (.int e1), (.int e2), (.int e3), (.int e4), (.int e5), (.int e6), (.int e7)] (.int (0 : Int32))) (hU : Us Z) :
    Met l true Z [] n0 (⟨"java/lang/StringUTF16", "putChar", "([BII)V"⟩ : MethodName) jdk_52_method_4_code 3 none ({ frames := 0, cells := 0, slots := 0, locals := 0 } : Room) [] #[(.ref b), (.int (0 : Int32)), (.int c)] [b] h (fun v h' => v = none ∧ Keep h h' [b] ∧ Arv Z h' b kb .byte (8 : Int32) [(.int (lo8 c)), (.int (hi8 c)), (.int e2), (.int e3), (.int e4), (.int e5), (.int e6), (.int e7)] (.int (0 : Int32))) := by
  refine Met.of_body (a0 := a0) (L0 := #[.val (.ref b), .val (.int (0 : Int32)), .val (.int c)]) (plainFor_of_name (by first | (simp [plainName, overriddenIn]; done) | decide +kernel)) (fun m => by first | rfl | (simp [entryFrame, mkF, argsToLocals, Value.category]; done)) hw hEL (by decide) ?_
  have K : Keep h h [b] := Keep.refl _ _
  refine old fun O1 _ => ?_
  refine getstatic (i := 49) (v := (.int (1 : Int32))) (pc' := 3) d_jdk_52_method_4_0 rfl (hU.1.ext O1.2) rfl ?_
  refine ifT (pc' := 28) d_jdk_52_method_4_3 (by decide : ¬ ((1 : Int32) = (0 : Int32))) (by decide) rfl ?_
  refine iloadN (pc' := 29) d_jdk_52_method_4_28 rfl rfl ?_
  refine iconst (pc' := 30) (v := (1 : Int32)) d_jdk_52_method_4_29 rfl rfl ?_
  refine ishl (pc' := 31) d_jdk_52_method_4_30 rfl ?_
  rw [show ((0 : Int32) <<< ((1 : Int32) &&& 31)) = (0 : Int32) by decide]
  refine istoreN (pc' := 32) (L' := #[.val (.ref b), .val (.int (0 : Int32)), .val (.int c)]) d_jdk_52_method_4_31 rfl rfl ?_
  refine aloadN (pc' := 33) d_jdk_52_method_4_32 rfl rfl rfl ?_
  refine iloadN (pc' := 34) d_jdk_52_method_4_33 rfl rfl ?_
  refine iinc (pc' := 37) (v := (1 : Int32)) (L' := #[.val (.ref b), .val (.int (1 : Int32)), .val (.int c)]) d_jdk_52_method_4_34 rfl rfl rfl rfl ?_
  refine iloadN (pc' := 38) d_jdk_52_method_4_37 rfl rfl ?_
  refine old fun O2 _ => ?_
  refine getstatic (i := 50) (v := (.int (0 : Int32))) (pc' := 41) d_jdk_52_method_4_38 rfl (hU.2.1.ext O2.2) rfl ?_
  refine ishr (pc' := 42) d_jdk_52_method_4_41 rfl ?_
  refine i2b (pc' := 43) d_jdk_52_method_4_42 rfl ?_
  refine bastore (pc' := 44) d_jdk_52_method_4_43 Ab ⟨by decide, by decide⟩ (by simp) (Nat.le_of_ble_eq_true rfl) rfl fun h3 W4 V5 => ?_
  replace K := K.wr W4 (Or.inl (by simp))
  replace Ab : Arv Z h3 b kb .byte (8 : Int32) [(.int (nar .byte ((c >>> ((0 : Int32) &&& 31)).toInt8.toInt32))), (.int e1), (.int e2), (.int e3), (.int e4), (.int e5), (.int e6), (.int e7)] (.int (0 : Int32)) := V5
  refine aloadN (pc' := 45) d_jdk_52_method_4_44 rfl rfl rfl ?_
  refine iloadN (pc' := 46) d_jdk_52_method_4_45 rfl rfl ?_
  refine iloadN (pc' := 47) d_jdk_52_method_4_46 rfl rfl ?_
  refine old fun O6 _ => ?_
  refine getstatic (i := 51) (v := (.int (8 : Int32))) (pc' := 50) d_jdk_52_method_4_47 rfl (hU.2.2.ext O6.2) rfl ?_
  refine ishr (pc' := 51) d_jdk_52_method_4_50 rfl ?_
  refine i2b (pc' := 52) d_jdk_52_method_4_51 rfl ?_
  refine bastore (pc' := 53) d_jdk_52_method_4_52 Ab ⟨by decide, by decide⟩ (by simp) (Nat.le_of_ble_eq_true rfl) rfl fun h7 W8 V9 => ?_
  replace K := K.wr W8 (Or.inl (by simp))
  replace Ab : Arv Z h7 b kb .byte (8 : Int32) [(.int (nar .byte ((c >>> ((0 : Int32) &&& 31)).toInt8.toInt32))), (.int (nar .byte ((c >>> ((8 : Int32) &&& 31)).toInt8.toInt32))), (.int e2), (.int e3), (.int e4), (.int e5), (.int e6), (.int e7)] (.int (0 : Int32)) := V9
  have q := Ab
  rw [own_lo, own_hi] at q
  exact retV d_jdk_52_method_4_53 rfl (by decide) (by decide) ⟨rfl, K, q⟩
set_option maxRecDepth 65536 in
set_option maxHeartbeats 40000000 in
theorem rm_put1 (l : Launch) (Z : State) (a0 : Array Value) (hw : ∀ d ∈ tables_1, d.before a0 Z = true) (hEL : EW Z a0 []) (n0 : Nat) (b : Addr) (kb : ClassId) (e0 e1 e2 e3 e4 e5 e6 e7 c : Int32) (h : Heap) (Ab : Arv Z h b kb .byte (8 : Int32) [(.int e0), (.int e1), (.int e2), (.int e3), (.int e4), (.int e5), (.int e6), (.int e7)] (.int (0 : Int32))) (hU : Us Z) :
    Met l true Z [] n0 (⟨"java/lang/StringUTF16", "putChar", "([BII)V"⟩ : MethodName) jdk_52_method_4_code 3 none ({ frames := 0, cells := 0, slots := 0, locals := 0 } : Room) [] #[(.ref b), (.int (1 : Int32)), (.int c)] [b] h (fun v h' => v = none ∧ Keep h h' [b] ∧ Arv Z h' b kb .byte (8 : Int32) [(.int e0), (.int e1), (.int (lo8 c)), (.int (hi8 c)), (.int e4), (.int e5), (.int e6), (.int e7)] (.int (0 : Int32))) := by
  refine Met.of_body (a0 := a0) (L0 := #[.val (.ref b), .val (.int (1 : Int32)), .val (.int c)]) (plainFor_of_name (by first | (simp [plainName, overriddenIn]; done) | decide +kernel)) (fun m => by first | rfl | (simp [entryFrame, mkF, argsToLocals, Value.category]; done)) hw hEL (by decide) ?_
  have K : Keep h h [b] := Keep.refl _ _
  refine old fun O10 _ => ?_
  refine getstatic (i := 49) (v := (.int (1 : Int32))) (pc' := 3) d_jdk_52_method_4_0 rfl (hU.1.ext O10.2) rfl ?_
  refine ifT (pc' := 28) d_jdk_52_method_4_3 (by decide : ¬ ((1 : Int32) = (0 : Int32))) (by decide) rfl ?_
  refine iloadN (pc' := 29) d_jdk_52_method_4_28 rfl rfl ?_
  refine iconst (pc' := 30) (v := (1 : Int32)) d_jdk_52_method_4_29 rfl rfl ?_
  refine ishl (pc' := 31) d_jdk_52_method_4_30 rfl ?_
  rw [show ((1 : Int32) <<< ((1 : Int32) &&& 31)) = (2 : Int32) by decide]
  refine istoreN (pc' := 32) (L' := #[.val (.ref b), .val (.int (2 : Int32)), .val (.int c)]) d_jdk_52_method_4_31 rfl rfl ?_
  refine aloadN (pc' := 33) d_jdk_52_method_4_32 rfl rfl rfl ?_
  refine iloadN (pc' := 34) d_jdk_52_method_4_33 rfl rfl ?_
  refine iinc (pc' := 37) (v := (3 : Int32)) (L' := #[.val (.ref b), .val (.int (3 : Int32)), .val (.int c)]) d_jdk_52_method_4_34 rfl rfl rfl rfl ?_
  refine iloadN (pc' := 38) d_jdk_52_method_4_37 rfl rfl ?_
  refine old fun O11 _ => ?_
  refine getstatic (i := 50) (v := (.int (0 : Int32))) (pc' := 41) d_jdk_52_method_4_38 rfl (hU.2.1.ext O11.2) rfl ?_
  refine ishr (pc' := 42) d_jdk_52_method_4_41 rfl ?_
  refine i2b (pc' := 43) d_jdk_52_method_4_42 rfl ?_
  refine bastore (pc' := 44) d_jdk_52_method_4_43 Ab ⟨by decide, by decide⟩ (by simp) (Nat.le_of_ble_eq_true rfl) rfl fun h12 W13 V14 => ?_
  replace K := K.wr W13 (Or.inl (by simp))
  replace Ab : Arv Z h12 b kb .byte (8 : Int32) [(.int e0), (.int e1), (.int (nar .byte ((c >>> ((0 : Int32) &&& 31)).toInt8.toInt32))), (.int e3), (.int e4), (.int e5), (.int e6), (.int e7)] (.int (0 : Int32)) := V14
  refine aloadN (pc' := 45) d_jdk_52_method_4_44 rfl rfl rfl ?_
  refine iloadN (pc' := 46) d_jdk_52_method_4_45 rfl rfl ?_
  refine iloadN (pc' := 47) d_jdk_52_method_4_46 rfl rfl ?_
  refine old fun O15 _ => ?_
  refine getstatic (i := 51) (v := (.int (8 : Int32))) (pc' := 50) d_jdk_52_method_4_47 rfl (hU.2.2.ext O15.2) rfl ?_
  refine ishr (pc' := 51) d_jdk_52_method_4_50 rfl ?_
  refine i2b (pc' := 52) d_jdk_52_method_4_51 rfl ?_
  refine bastore (pc' := 53) d_jdk_52_method_4_52 Ab ⟨by decide, by decide⟩ (by simp) (Nat.le_of_ble_eq_true rfl) rfl fun h16 W17 V18 => ?_
  replace K := K.wr W17 (Or.inl (by simp))
  replace Ab : Arv Z h16 b kb .byte (8 : Int32) [(.int e0), (.int e1), (.int (nar .byte ((c >>> ((0 : Int32) &&& 31)).toInt8.toInt32))), (.int (nar .byte ((c >>> ((8 : Int32) &&& 31)).toInt8.toInt32))), (.int e4), (.int e5), (.int e6), (.int e7)] (.int (0 : Int32)) := V18
  have q := Ab
  rw [own_lo, own_hi] at q
  exact retV d_jdk_52_method_4_53 rfl (by decide) (by decide) ⟨rfl, K, q⟩
set_option maxRecDepth 65536 in
set_option maxHeartbeats 40000000 in
theorem rm_put2 (l : Launch) (Z : State) (a0 : Array Value) (hw : ∀ d ∈ tables_1, d.before a0 Z = true) (hEL : EW Z a0 []) (n0 : Nat) (b : Addr) (kb : ClassId) (e0 e1 e2 e3 e4 e5 e6 e7 c : Int32) (h : Heap) (Ab : Arv Z h b kb .byte (8 : Int32) [(.int e0), (.int e1), (.int e2), (.int e3), (.int e4), (.int e5), (.int e6), (.int e7)] (.int (0 : Int32))) (hU : Us Z) :
    Met l true Z [] n0 (⟨"java/lang/StringUTF16", "putChar", "([BII)V"⟩ : MethodName) jdk_52_method_4_code 3 none ({ frames := 0, cells := 0, slots := 0, locals := 0 } : Room) [] #[(.ref b), (.int (2 : Int32)), (.int c)] [b] h (fun v h' => v = none ∧ Keep h h' [b] ∧ Arv Z h' b kb .byte (8 : Int32) [(.int e0), (.int e1), (.int e2), (.int e3), (.int (lo8 c)), (.int (hi8 c)), (.int e6), (.int e7)] (.int (0 : Int32))) := by
  refine Met.of_body (a0 := a0) (L0 := #[.val (.ref b), .val (.int (2 : Int32)), .val (.int c)]) (plainFor_of_name (by first | (simp [plainName, overriddenIn]; done) | decide +kernel)) (fun m => by first | rfl | (simp [entryFrame, mkF, argsToLocals, Value.category]; done)) hw hEL (by decide) ?_
  have K : Keep h h [b] := Keep.refl _ _
  refine old fun O19 _ => ?_
  refine getstatic (i := 49) (v := (.int (1 : Int32))) (pc' := 3) d_jdk_52_method_4_0 rfl (hU.1.ext O19.2) rfl ?_
  refine ifT (pc' := 28) d_jdk_52_method_4_3 (by decide : ¬ ((1 : Int32) = (0 : Int32))) (by decide) rfl ?_
  refine iloadN (pc' := 29) d_jdk_52_method_4_28 rfl rfl ?_
  refine iconst (pc' := 30) (v := (1 : Int32)) d_jdk_52_method_4_29 rfl rfl ?_
  refine ishl (pc' := 31) d_jdk_52_method_4_30 rfl ?_
  rw [show ((2 : Int32) <<< ((1 : Int32) &&& 31)) = (4 : Int32) by decide]
  refine istoreN (pc' := 32) (L' := #[.val (.ref b), .val (.int (4 : Int32)), .val (.int c)]) d_jdk_52_method_4_31 rfl rfl ?_
  refine aloadN (pc' := 33) d_jdk_52_method_4_32 rfl rfl rfl ?_
  refine iloadN (pc' := 34) d_jdk_52_method_4_33 rfl rfl ?_
  refine iinc (pc' := 37) (v := (5 : Int32)) (L' := #[.val (.ref b), .val (.int (5 : Int32)), .val (.int c)]) d_jdk_52_method_4_34 rfl rfl rfl rfl ?_
  refine iloadN (pc' := 38) d_jdk_52_method_4_37 rfl rfl ?_
  refine old fun O20 _ => ?_
  refine getstatic (i := 50) (v := (.int (0 : Int32))) (pc' := 41) d_jdk_52_method_4_38 rfl (hU.2.1.ext O20.2) rfl ?_
  refine ishr (pc' := 42) d_jdk_52_method_4_41 rfl ?_
  refine i2b (pc' := 43) d_jdk_52_method_4_42 rfl ?_
  refine bastore (pc' := 44) d_jdk_52_method_4_43 Ab ⟨by decide, by decide⟩ (by simp) (Nat.le_of_ble_eq_true rfl) rfl fun h21 W22 V23 => ?_
  replace K := K.wr W22 (Or.inl (by simp))
  replace Ab : Arv Z h21 b kb .byte (8 : Int32) [(.int e0), (.int e1), (.int e2), (.int e3), (.int (nar .byte ((c >>> ((0 : Int32) &&& 31)).toInt8.toInt32))), (.int e5), (.int e6), (.int e7)] (.int (0 : Int32)) := V23
  refine aloadN (pc' := 45) d_jdk_52_method_4_44 rfl rfl rfl ?_
  refine iloadN (pc' := 46) d_jdk_52_method_4_45 rfl rfl ?_
  refine iloadN (pc' := 47) d_jdk_52_method_4_46 rfl rfl ?_
  refine old fun O24 _ => ?_
  refine getstatic (i := 51) (v := (.int (8 : Int32))) (pc' := 50) d_jdk_52_method_4_47 rfl (hU.2.2.ext O24.2) rfl ?_
  refine ishr (pc' := 51) d_jdk_52_method_4_50 rfl ?_
  refine i2b (pc' := 52) d_jdk_52_method_4_51 rfl ?_
  refine bastore (pc' := 53) d_jdk_52_method_4_52 Ab ⟨by decide, by decide⟩ (by simp) (Nat.le_of_ble_eq_true rfl) rfl fun h25 W26 V27 => ?_
  replace K := K.wr W26 (Or.inl (by simp))
  replace Ab : Arv Z h25 b kb .byte (8 : Int32) [(.int e0), (.int e1), (.int e2), (.int e3), (.int (nar .byte ((c >>> ((0 : Int32) &&& 31)).toInt8.toInt32))), (.int (nar .byte ((c >>> ((8 : Int32) &&& 31)).toInt8.toInt32))), (.int e6), (.int e7)] (.int (0 : Int32)) := V27
  have q := Ab
  rw [own_lo, own_hi] at q
  exact retV d_jdk_52_method_4_53 rfl (by decide) (by decide) ⟨rfl, K, q⟩
set_option maxRecDepth 65536 in
set_option maxHeartbeats 40000000 in
theorem rm_put3 (l : Launch) (Z : State) (a0 : Array Value) (hw : ∀ d ∈ tables_1, d.before a0 Z = true) (hEL : EW Z a0 []) (n0 : Nat) (b : Addr) (kb : ClassId) (e0 e1 e2 e3 e4 e5 e6 e7 c : Int32) (h : Heap) (Ab : Arv Z h b kb .byte (8 : Int32) [(.int e0), (.int e1), (.int e2), (.int e3), (.int e4), (.int e5), (.int e6), (.int e7)] (.int (0 : Int32))) (hU : Us Z) :
    Met l true Z [] n0 (⟨"java/lang/StringUTF16", "putChar", "([BII)V"⟩ : MethodName) jdk_52_method_4_code 3 none ({ frames := 0, cells := 0, slots := 0, locals := 0 } : Room) [] #[(.ref b), (.int (3 : Int32)), (.int c)] [b] h (fun v h' => v = none ∧ Keep h h' [b] ∧ Arv Z h' b kb .byte (8 : Int32) [(.int e0), (.int e1), (.int e2), (.int e3), (.int e4), (.int e5), (.int (lo8 c)), (.int (hi8 c))] (.int (0 : Int32))) := by
  refine Met.of_body (a0 := a0) (L0 := #[.val (.ref b), .val (.int (3 : Int32)), .val (.int c)]) (plainFor_of_name (by first | (simp [plainName, overriddenIn]; done) | decide +kernel)) (fun m => by first | rfl | (simp [entryFrame, mkF, argsToLocals, Value.category]; done)) hw hEL (by decide) ?_
  have K : Keep h h [b] := Keep.refl _ _
  refine old fun O28 _ => ?_
  refine getstatic (i := 49) (v := (.int (1 : Int32))) (pc' := 3) d_jdk_52_method_4_0 rfl (hU.1.ext O28.2) rfl ?_
  refine ifT (pc' := 28) d_jdk_52_method_4_3 (by decide : ¬ ((1 : Int32) = (0 : Int32))) (by decide) rfl ?_
  refine iloadN (pc' := 29) d_jdk_52_method_4_28 rfl rfl ?_
  refine iconst (pc' := 30) (v := (1 : Int32)) d_jdk_52_method_4_29 rfl rfl ?_
  refine ishl (pc' := 31) d_jdk_52_method_4_30 rfl ?_
  rw [show ((3 : Int32) <<< ((1 : Int32) &&& 31)) = (6 : Int32) by decide]
  refine istoreN (pc' := 32) (L' := #[.val (.ref b), .val (.int (6 : Int32)), .val (.int c)]) d_jdk_52_method_4_31 rfl rfl ?_
  refine aloadN (pc' := 33) d_jdk_52_method_4_32 rfl rfl rfl ?_
  refine iloadN (pc' := 34) d_jdk_52_method_4_33 rfl rfl ?_
  refine iinc (pc' := 37) (v := (7 : Int32)) (L' := #[.val (.ref b), .val (.int (7 : Int32)), .val (.int c)]) d_jdk_52_method_4_34 rfl rfl rfl rfl ?_
  refine iloadN (pc' := 38) d_jdk_52_method_4_37 rfl rfl ?_
  refine old fun O29 _ => ?_
  refine getstatic (i := 50) (v := (.int (0 : Int32))) (pc' := 41) d_jdk_52_method_4_38 rfl (hU.2.1.ext O29.2) rfl ?_
  refine ishr (pc' := 42) d_jdk_52_method_4_41 rfl ?_
  refine i2b (pc' := 43) d_jdk_52_method_4_42 rfl ?_
  refine bastore (pc' := 44) d_jdk_52_method_4_43 Ab ⟨by decide, by decide⟩ (by simp) (Nat.le_of_ble_eq_true rfl) rfl fun h30 W31 V32 => ?_
  replace K := K.wr W31 (Or.inl (by simp))
  replace Ab : Arv Z h30 b kb .byte (8 : Int32) [(.int e0), (.int e1), (.int e2), (.int e3), (.int e4), (.int e5), (.int (nar .byte ((c >>> ((0 : Int32) &&& 31)).toInt8.toInt32))), (.int e7)] (.int (0 : Int32)) := V32
  refine aloadN (pc' := 45) d_jdk_52_method_4_44 rfl rfl rfl ?_
  refine iloadN (pc' := 46) d_jdk_52_method_4_45 rfl rfl ?_
  refine iloadN (pc' := 47) d_jdk_52_method_4_46 rfl rfl ?_
  refine old fun O33 _ => ?_
  refine getstatic (i := 51) (v := (.int (8 : Int32))) (pc' := 50) d_jdk_52_method_4_47 rfl (hU.2.2.ext O33.2) rfl ?_
  refine ishr (pc' := 51) d_jdk_52_method_4_50 rfl ?_
  refine i2b (pc' := 52) d_jdk_52_method_4_51 rfl ?_
  refine bastore (pc' := 53) d_jdk_52_method_4_52 Ab ⟨by decide, by decide⟩ (by simp) (Nat.le_of_ble_eq_true rfl) rfl fun h34 W35 V36 => ?_
  replace K := K.wr W35 (Or.inl (by simp))
  replace Ab : Arv Z h34 b kb .byte (8 : Int32) [(.int e0), (.int e1), (.int e2), (.int e3), (.int e4), (.int e5), (.int (nar .byte ((c >>> ((0 : Int32) &&& 31)).toInt8.toInt32))), (.int (nar .byte ((c >>> ((8 : Int32) &&& 31)).toInt8.toInt32)))] (.int (0 : Int32)) := V36
  have q := Ab
  rw [own_lo, own_hi] at q
  exact retV d_jdk_52_method_4_53 rfl (by decide) (by decide) ⟨rfl, K, q⟩
set_option maxRecDepth 65536 in
set_option maxHeartbeats 40000000 in
theorem rm_get0 (l : Launch) (Z : State) (a0 : Array Value) (hw : ∀ d ∈ tables_1, d.before a0 Z = true) (hEL : EW Z a0 []) (n0 : Nat) (b : Addr) (kb : ClassId) (d0 d1 d2 d3 : Int32) (h : Heap) (Ab : Arv Z h b kb .byte (8 : Int32) (wb d0 d1 d2 d3) (.int (0 : Int32))) (hU : Us Z) (hk : ch d0) :
    Met l true Z [] n0 (⟨"java/lang/StringUTF16", "getChar", "([BI)C"⟩ : MethodName) jdk_52_method_5_code 2 (some .char) ({ frames := 0, cells := 0, slots := 0, locals := 0 } : Room) [] #[(.ref b), (.int (0 : Int32))] [] h (fun v h' => v = some (.int d0) ∧ h' = h) := by
  refine Met.of_body (a0 := a0) (L0 := #[.val (.ref b), .val (.int (0 : Int32))]) (plainFor_of_name (by first | (simp [plainName, overriddenIn]; done) | decide +kernel)) (fun m => by first | rfl | (simp [entryFrame, mkF, argsToLocals, Value.category]; done)) hw hEL (by decide) ?_
  refine old fun O37 _ => ?_
  refine getstatic (i := 49) (v := (.int (1 : Int32))) (pc' := 3) d_jdk_52_method_5_0 rfl (hU.1.ext O37.2) rfl ?_
  refine ifT (pc' := 28) d_jdk_52_method_5_3 (by decide : ¬ ((1 : Int32) = (0 : Int32))) (by decide) rfl ?_
  refine iloadN (pc' := 29) d_jdk_52_method_5_28 rfl rfl ?_
  refine iconst (pc' := 30) (v := (1 : Int32)) d_jdk_52_method_5_29 rfl rfl ?_
  refine ishl (pc' := 31) d_jdk_52_method_5_30 rfl ?_
  rw [show ((0 : Int32) <<< ((1 : Int32) &&& 31)) = (0 : Int32) by decide]
  refine istoreN (pc' := 32) (L' := #[.val (.ref b), .val (.int (0 : Int32))]) d_jdk_52_method_5_31 rfl rfl ?_
  refine aloadN (pc' := 33) d_jdk_52_method_5_32 rfl rfl rfl ?_
  refine iloadN (pc' := 34) d_jdk_52_method_5_33 rfl rfl ?_
  refine iinc (pc' := 37) (v := (1 : Int32)) (L' := #[.val (.ref b), .val (.int (1 : Int32))]) d_jdk_52_method_5_34 rfl rfl rfl rfl ?_
  refine baload (v := .int (lo8 d0)) (pc' := 38) d_jdk_52_method_5_37 Ab ⟨by decide, by decide⟩ rfl rfl ?_
  refine sipush (pc' := 41) (v := (255 : Int32)) d_jdk_52_method_5_38 rfl rfl ?_
  refine iand (pc' := 42) d_jdk_52_method_5_41 rfl ?_
  refine old fun O38 _ => ?_
  refine getstatic (i := 50) (v := (.int (0 : Int32))) (pc' := 45) d_jdk_52_method_5_42 rfl (hU.2.1.ext O38.2) rfl ?_
  refine ishl (pc' := 46) d_jdk_52_method_5_45 rfl ?_
  refine aloadN (pc' := 47) d_jdk_52_method_5_46 rfl rfl rfl ?_
  refine iloadN (pc' := 48) d_jdk_52_method_5_47 rfl rfl ?_
  refine baload (v := .int (hi8 d0)) (pc' := 49) d_jdk_52_method_5_48 Ab ⟨by decide, by decide⟩ rfl rfl ?_
  refine sipush (pc' := 52) (v := (255 : Int32)) d_jdk_52_method_5_49 rfl rfl ?_
  refine iand (pc' := 53) d_jdk_52_method_5_52 rfl ?_
  refine old fun O39 _ => ?_
  refine getstatic (i := 51) (v := (.int (8 : Int32))) (pc' := 56) d_jdk_52_method_5_53 rfl (hU.2.2.ext O39.2) rfl ?_
  refine ishl (pc' := 57) d_jdk_52_method_5_56 rfl ?_
  refine ior (pc' := 58) d_jdk_52_method_5_57 rfl ?_
  refine i2c (pc' := 59) d_jdk_52_method_5_58 rfl ?_
  rw [show (((((lo8 d0) &&& (255 : Int32)) <<< ((0 : Int32) &&& 31)) ||| (((hi8 d0) &&& (255 : Int32)) <<< ((8 : Int32) &&& 31))).toUInt32.toUInt16.toUInt32.toInt32) = d0 from StrChars.pair_says hk.1 hk.2]
  exact retI d_jdk_52_method_5_59 rfl (Or.inr (Or.inr (Or.inr (Or.inl rfl)))) (congrArg Value.int (own_nar hk)) (by decide) (by decide) ⟨rfl, rfl⟩
set_option maxRecDepth 65536 in
set_option maxHeartbeats 40000000 in
theorem rm_get1 (l : Launch) (Z : State) (a0 : Array Value) (hw : ∀ d ∈ tables_1, d.before a0 Z = true) (hEL : EW Z a0 []) (n0 : Nat) (b : Addr) (kb : ClassId) (d0 d1 d2 d3 : Int32) (h : Heap) (Ab : Arv Z h b kb .byte (8 : Int32) (wb d0 d1 d2 d3) (.int (0 : Int32))) (hU : Us Z) (hk : ch d1) :
    Met l true Z [] n0 (⟨"java/lang/StringUTF16", "getChar", "([BI)C"⟩ : MethodName) jdk_52_method_5_code 2 (some .char) ({ frames := 0, cells := 0, slots := 0, locals := 0 } : Room) [] #[(.ref b), (.int (1 : Int32))] [] h (fun v h' => v = some (.int d1) ∧ h' = h) := by
  refine Met.of_body (a0 := a0) (L0 := #[.val (.ref b), .val (.int (1 : Int32))]) (plainFor_of_name (by first | (simp [plainName, overriddenIn]; done) | decide +kernel)) (fun m => by first | rfl | (simp [entryFrame, mkF, argsToLocals, Value.category]; done)) hw hEL (by decide) ?_
  refine old fun O40 _ => ?_
  refine getstatic (i := 49) (v := (.int (1 : Int32))) (pc' := 3) d_jdk_52_method_5_0 rfl (hU.1.ext O40.2) rfl ?_
  refine ifT (pc' := 28) d_jdk_52_method_5_3 (by decide : ¬ ((1 : Int32) = (0 : Int32))) (by decide) rfl ?_
  refine iloadN (pc' := 29) d_jdk_52_method_5_28 rfl rfl ?_
  refine iconst (pc' := 30) (v := (1 : Int32)) d_jdk_52_method_5_29 rfl rfl ?_
  refine ishl (pc' := 31) d_jdk_52_method_5_30 rfl ?_
  rw [show ((1 : Int32) <<< ((1 : Int32) &&& 31)) = (2 : Int32) by decide]
  refine istoreN (pc' := 32) (L' := #[.val (.ref b), .val (.int (2 : Int32))]) d_jdk_52_method_5_31 rfl rfl ?_
  refine aloadN (pc' := 33) d_jdk_52_method_5_32 rfl rfl rfl ?_
  refine iloadN (pc' := 34) d_jdk_52_method_5_33 rfl rfl ?_
  refine iinc (pc' := 37) (v := (3 : Int32)) (L' := #[.val (.ref b), .val (.int (3 : Int32))]) d_jdk_52_method_5_34 rfl rfl rfl rfl ?_
  refine baload (v := .int (lo8 d1)) (pc' := 38) d_jdk_52_method_5_37 Ab ⟨by decide, by decide⟩ rfl rfl ?_
  refine sipush (pc' := 41) (v := (255 : Int32)) d_jdk_52_method_5_38 rfl rfl ?_
  refine iand (pc' := 42) d_jdk_52_method_5_41 rfl ?_
  refine old fun O41 _ => ?_
  refine getstatic (i := 50) (v := (.int (0 : Int32))) (pc' := 45) d_jdk_52_method_5_42 rfl (hU.2.1.ext O41.2) rfl ?_
  refine ishl (pc' := 46) d_jdk_52_method_5_45 rfl ?_
  refine aloadN (pc' := 47) d_jdk_52_method_5_46 rfl rfl rfl ?_
  refine iloadN (pc' := 48) d_jdk_52_method_5_47 rfl rfl ?_
  refine baload (v := .int (hi8 d1)) (pc' := 49) d_jdk_52_method_5_48 Ab ⟨by decide, by decide⟩ rfl rfl ?_
  refine sipush (pc' := 52) (v := (255 : Int32)) d_jdk_52_method_5_49 rfl rfl ?_
  refine iand (pc' := 53) d_jdk_52_method_5_52 rfl ?_
  refine old fun O42 _ => ?_
  refine getstatic (i := 51) (v := (.int (8 : Int32))) (pc' := 56) d_jdk_52_method_5_53 rfl (hU.2.2.ext O42.2) rfl ?_
  refine ishl (pc' := 57) d_jdk_52_method_5_56 rfl ?_
  refine ior (pc' := 58) d_jdk_52_method_5_57 rfl ?_
  refine i2c (pc' := 59) d_jdk_52_method_5_58 rfl ?_
  rw [show (((((lo8 d1) &&& (255 : Int32)) <<< ((0 : Int32) &&& 31)) ||| (((hi8 d1) &&& (255 : Int32)) <<< ((8 : Int32) &&& 31))).toUInt32.toUInt16.toUInt32.toInt32) = d1 from StrChars.pair_says hk.1 hk.2]
  exact retI d_jdk_52_method_5_59 rfl (Or.inr (Or.inr (Or.inr (Or.inl rfl)))) (congrArg Value.int (own_nar hk)) (by decide) (by decide) ⟨rfl, rfl⟩
set_option maxRecDepth 65536 in
set_option maxHeartbeats 40000000 in
theorem rm_get2 (l : Launch) (Z : State) (a0 : Array Value) (hw : ∀ d ∈ tables_1, d.before a0 Z = true) (hEL : EW Z a0 []) (n0 : Nat) (b : Addr) (kb : ClassId) (d0 d1 d2 d3 : Int32) (h : Heap) (Ab : Arv Z h b kb .byte (8 : Int32) (wb d0 d1 d2 d3) (.int (0 : Int32))) (hU : Us Z) (hk : ch d2) :
    Met l true Z [] n0 (⟨"java/lang/StringUTF16", "getChar", "([BI)C"⟩ : MethodName) jdk_52_method_5_code 2 (some .char) ({ frames := 0, cells := 0, slots := 0, locals := 0 } : Room) [] #[(.ref b), (.int (2 : Int32))] [] h (fun v h' => v = some (.int d2) ∧ h' = h) := by
  refine Met.of_body (a0 := a0) (L0 := #[.val (.ref b), .val (.int (2 : Int32))]) (plainFor_of_name (by first | (simp [plainName, overriddenIn]; done) | decide +kernel)) (fun m => by first | rfl | (simp [entryFrame, mkF, argsToLocals, Value.category]; done)) hw hEL (by decide) ?_
  refine old fun O43 _ => ?_
  refine getstatic (i := 49) (v := (.int (1 : Int32))) (pc' := 3) d_jdk_52_method_5_0 rfl (hU.1.ext O43.2) rfl ?_
  refine ifT (pc' := 28) d_jdk_52_method_5_3 (by decide : ¬ ((1 : Int32) = (0 : Int32))) (by decide) rfl ?_
  refine iloadN (pc' := 29) d_jdk_52_method_5_28 rfl rfl ?_
  refine iconst (pc' := 30) (v := (1 : Int32)) d_jdk_52_method_5_29 rfl rfl ?_
  refine ishl (pc' := 31) d_jdk_52_method_5_30 rfl ?_
  rw [show ((2 : Int32) <<< ((1 : Int32) &&& 31)) = (4 : Int32) by decide]
  refine istoreN (pc' := 32) (L' := #[.val (.ref b), .val (.int (4 : Int32))]) d_jdk_52_method_5_31 rfl rfl ?_
  refine aloadN (pc' := 33) d_jdk_52_method_5_32 rfl rfl rfl ?_
  refine iloadN (pc' := 34) d_jdk_52_method_5_33 rfl rfl ?_
  refine iinc (pc' := 37) (v := (5 : Int32)) (L' := #[.val (.ref b), .val (.int (5 : Int32))]) d_jdk_52_method_5_34 rfl rfl rfl rfl ?_
  refine baload (v := .int (lo8 d2)) (pc' := 38) d_jdk_52_method_5_37 Ab ⟨by decide, by decide⟩ rfl rfl ?_
  refine sipush (pc' := 41) (v := (255 : Int32)) d_jdk_52_method_5_38 rfl rfl ?_
  refine iand (pc' := 42) d_jdk_52_method_5_41 rfl ?_
  refine old fun O44 _ => ?_
  refine getstatic (i := 50) (v := (.int (0 : Int32))) (pc' := 45) d_jdk_52_method_5_42 rfl (hU.2.1.ext O44.2) rfl ?_
  refine ishl (pc' := 46) d_jdk_52_method_5_45 rfl ?_
  refine aloadN (pc' := 47) d_jdk_52_method_5_46 rfl rfl rfl ?_
  refine iloadN (pc' := 48) d_jdk_52_method_5_47 rfl rfl ?_
  refine baload (v := .int (hi8 d2)) (pc' := 49) d_jdk_52_method_5_48 Ab ⟨by decide, by decide⟩ rfl rfl ?_
  refine sipush (pc' := 52) (v := (255 : Int32)) d_jdk_52_method_5_49 rfl rfl ?_
  refine iand (pc' := 53) d_jdk_52_method_5_52 rfl ?_
  refine old fun O45 _ => ?_
  refine getstatic (i := 51) (v := (.int (8 : Int32))) (pc' := 56) d_jdk_52_method_5_53 rfl (hU.2.2.ext O45.2) rfl ?_
  refine ishl (pc' := 57) d_jdk_52_method_5_56 rfl ?_
  refine ior (pc' := 58) d_jdk_52_method_5_57 rfl ?_
  refine i2c (pc' := 59) d_jdk_52_method_5_58 rfl ?_
  rw [show (((((lo8 d2) &&& (255 : Int32)) <<< ((0 : Int32) &&& 31)) ||| (((hi8 d2) &&& (255 : Int32)) <<< ((8 : Int32) &&& 31))).toUInt32.toUInt16.toUInt32.toInt32) = d2 from StrChars.pair_says hk.1 hk.2]
  exact retI d_jdk_52_method_5_59 rfl (Or.inr (Or.inr (Or.inr (Or.inl rfl)))) (congrArg Value.int (own_nar hk)) (by decide) (by decide) ⟨rfl, rfl⟩
set_option maxRecDepth 65536 in
set_option maxHeartbeats 40000000 in
theorem rm_get3 (l : Launch) (Z : State) (a0 : Array Value) (hw : ∀ d ∈ tables_1, d.before a0 Z = true) (hEL : EW Z a0 []) (n0 : Nat) (b : Addr) (kb : ClassId) (d0 d1 d2 d3 : Int32) (h : Heap) (Ab : Arv Z h b kb .byte (8 : Int32) (wb d0 d1 d2 d3) (.int (0 : Int32))) (hU : Us Z) (hk : ch d3) :
    Met l true Z [] n0 (⟨"java/lang/StringUTF16", "getChar", "([BI)C"⟩ : MethodName) jdk_52_method_5_code 2 (some .char) ({ frames := 0, cells := 0, slots := 0, locals := 0 } : Room) [] #[(.ref b), (.int (3 : Int32))] [] h (fun v h' => v = some (.int d3) ∧ h' = h) := by
  refine Met.of_body (a0 := a0) (L0 := #[.val (.ref b), .val (.int (3 : Int32))]) (plainFor_of_name (by first | (simp [plainName, overriddenIn]; done) | decide +kernel)) (fun m => by first | rfl | (simp [entryFrame, mkF, argsToLocals, Value.category]; done)) hw hEL (by decide) ?_
  refine old fun O46 _ => ?_
  refine getstatic (i := 49) (v := (.int (1 : Int32))) (pc' := 3) d_jdk_52_method_5_0 rfl (hU.1.ext O46.2) rfl ?_
  refine ifT (pc' := 28) d_jdk_52_method_5_3 (by decide : ¬ ((1 : Int32) = (0 : Int32))) (by decide) rfl ?_
  refine iloadN (pc' := 29) d_jdk_52_method_5_28 rfl rfl ?_
  refine iconst (pc' := 30) (v := (1 : Int32)) d_jdk_52_method_5_29 rfl rfl ?_
  refine ishl (pc' := 31) d_jdk_52_method_5_30 rfl ?_
  rw [show ((3 : Int32) <<< ((1 : Int32) &&& 31)) = (6 : Int32) by decide]
  refine istoreN (pc' := 32) (L' := #[.val (.ref b), .val (.int (6 : Int32))]) d_jdk_52_method_5_31 rfl rfl ?_
  refine aloadN (pc' := 33) d_jdk_52_method_5_32 rfl rfl rfl ?_
  refine iloadN (pc' := 34) d_jdk_52_method_5_33 rfl rfl ?_
  refine iinc (pc' := 37) (v := (7 : Int32)) (L' := #[.val (.ref b), .val (.int (7 : Int32))]) d_jdk_52_method_5_34 rfl rfl rfl rfl ?_
  refine baload (v := .int (lo8 d3)) (pc' := 38) d_jdk_52_method_5_37 Ab ⟨by decide, by decide⟩ rfl rfl ?_
  refine sipush (pc' := 41) (v := (255 : Int32)) d_jdk_52_method_5_38 rfl rfl ?_
  refine iand (pc' := 42) d_jdk_52_method_5_41 rfl ?_
  refine old fun O47 _ => ?_
  refine getstatic (i := 50) (v := (.int (0 : Int32))) (pc' := 45) d_jdk_52_method_5_42 rfl (hU.2.1.ext O47.2) rfl ?_
  refine ishl (pc' := 46) d_jdk_52_method_5_45 rfl ?_
  refine aloadN (pc' := 47) d_jdk_52_method_5_46 rfl rfl rfl ?_
  refine iloadN (pc' := 48) d_jdk_52_method_5_47 rfl rfl ?_
  refine baload (v := .int (hi8 d3)) (pc' := 49) d_jdk_52_method_5_48 Ab ⟨by decide, by decide⟩ rfl rfl ?_
  refine sipush (pc' := 52) (v := (255 : Int32)) d_jdk_52_method_5_49 rfl rfl ?_
  refine iand (pc' := 53) d_jdk_52_method_5_52 rfl ?_
  refine old fun O48 _ => ?_
  refine getstatic (i := 51) (v := (.int (8 : Int32))) (pc' := 56) d_jdk_52_method_5_53 rfl (hU.2.2.ext O48.2) rfl ?_
  refine ishl (pc' := 57) d_jdk_52_method_5_56 rfl ?_
  refine ior (pc' := 58) d_jdk_52_method_5_57 rfl ?_
  refine i2c (pc' := 59) d_jdk_52_method_5_58 rfl ?_
  rw [show (((((lo8 d3) &&& (255 : Int32)) <<< ((0 : Int32) &&& 31)) ||| (((hi8 d3) &&& (255 : Int32)) <<< ((8 : Int32) &&& 31))).toUInt32.toUInt16.toUInt32.toInt32) = d3 from StrChars.pair_says hk.1 hk.2]
  exact retI d_jdk_52_method_5_59 rfl (Or.inr (Or.inr (Or.inr (Or.inl rfl)))) (congrArg Value.int (own_nar hk)) (by decide) (by decide) ⟨rfl, rfl⟩
set_option maxRecDepth 65536 in
set_option maxHeartbeats 40000000 in
theorem rm_nbl (l : Launch) (Z : State) (a0 : Array Value) (hw : ∀ d ∈ tables_1, d.before a0 Z = true) (hEL : EW Z a0 []) (n0 : Nat)  (h : Heap)   :
    Met l true Z [] n0 (⟨"java/lang/StringUTF16", "newBytesLength", "(I)I"⟩ : MethodName) jdk_52_method_3_code 1 (some .int) ({ frames := 0, cells := 0, slots := 0, locals := 0 } : Room) [] #[(.int (4 : Int32))] [] h (fun v h' => v = some (.int 8) ∧ h' = h) := by
  refine Met.of_body (a0 := a0) (L0 := #[.val (.int (4 : Int32))]) (plainFor_of_name (by first | (simp [plainName, overriddenIn]; done) | decide +kernel)) (fun m => by first | rfl | (simp [entryFrame, mkF, argsToLocals, Value.category]; done)) hw hEL (by decide) ?_
  refine iloadN (pc' := 1) d_jdk_52_method_3_0 rfl rfl ?_
  refine ifT (pc' := 12) d_jdk_52_method_3_1 (by decide : ¬ ((4 : Int32) < (0 : Int32))) (by decide) rfl ?_
  refine iloadN (pc' := 13) d_jdk_52_method_3_12 rfl rfl ?_
  refine ldcInt (i := 45) (v := (1073741823 : Int32)) (pc' := 15) d_jdk_52_method_3_13 rfl rfl ?_
  refine icmpT (pc' := 55) d_jdk_52_method_3_15 (by decide : (4 : Int32) < (1073741823 : Int32)) (by decide) rfl ?_
  refine iloadN (pc' := 56) d_jdk_52_method_3_55 rfl rfl ?_
  refine iconst (pc' := 57) (v := (1 : Int32)) d_jdk_52_method_3_56 rfl rfl ?_
  refine ishl (pc' := 58) d_jdk_52_method_3_57 rfl ?_
  rw [show ((4 : Int32) <<< ((1 : Int32) &&& 31)) = (8 : Int32) by decide]
  exact retI d_jdk_52_method_3_58 rfl (Or.inl rfl) rfl (by decide) (by decide) ⟨rfl, rfl⟩
set_option maxRecDepth 65536 in
set_option maxHeartbeats 40000000 in
theorem rm_nbf (l : Launch) (Z : State) (a0 : Array Value) (hw : ∀ d ∈ tables_1, d.before a0 Z = true) (hEL : EW Z a0 []) (n0 : Nat)  (h : Heap)   :
    Met l true Z [] n0 (⟨"java/lang/StringUTF16", "newBytesFor", "(I)[B"⟩ : MethodName) jdk_52_method_2_code 1 (some (.array .byte)) ({ frames := 1, cells := 1, slots := 8, locals := 14 } : Room) [] #[(.int (4 : Int32))] [] h (fun v h' => ∃ b kb, v = some (.ref b) ∧ Ext h h' ∧ h.size ≤ b ∧ Arv Z h' b kb .byte (8 : Int32) [(.int (0 : Int32)), (.int (0 : Int32)), (.int (0 : Int32)), (.int (0 : Int32)), (.int (0 : Int32)), (.int (0 : Int32)), (.int (0 : Int32)), (.int (0 : Int32))] (.int (0 : Int32))) := by
  refine Met.of_body (a0 := a0) (L0 := #[.val (.int (4 : Int32))]) (plainFor_of_name (by first | (simp [plainName, overriddenIn]; done) | decide +kernel)) (fun m => by first | rfl | (simp [entryFrame, mkF, argsToLocals, Value.category]; done)) hw hEL (by decide) ?_
  have K : Keep h h [] := Keep.refl _ _
  refine iloadN (pc' := 1) d_jdk_52_method_2_0 rfl rfl ?_
  refine call (i := 44) (i2 := 18) (Wd := 0) (pc' := 4) (kStatic (i := 42) (i2 := 43) (i3 := 18) (i4 := 44) (argsL := [(.int (4 : Int32))]) (S' := []) (Wd := 0) d_jdk_52_method_2_1 rfl rfl rfl rfl (by decide) rfl pd_0 rfl rfl (Nat.le_of_ble_eq_true rfl)) (rm_nbl l Z a0 hw hEL n0 _) rfl rfl (by simp) (by decide) (by decide) (by decide) (by decide) rfl fun v_ h49 P50 sz51 => ?_
  obtain ⟨rfl, e52⟩ := P50
  rw [e52]
  refine at' (ce' := 0) (sl' := 0) (pc' := 4) (L' := #[.val (.int (4 : Int32))]) (S' := [(.int (8 : Int32))]) rfl rfl rfl rfl rfl ?_
  refine newarray (i := 20) (cap := 8) (ty := .byte) (pc' := 6) d_jdk_52_method_2_4 rfl rfl (by decide) (by decide) (by decide) (by decide) (by decide) rfl fun h53 a54 kc58 g55 E56 V57 => ?_
  have sz_a54 : h.size ≤ a54 := by rw [g55]; exact K.1
  replace K := K.ext E56
  replace V57 : Arv Z h53 a54 kc58 .byte (8 : Int32) [(.int (0 : Int32)), (.int (0 : Int32)), (.int (0 : Int32)), (.int (0 : Int32)), (.int (0 : Int32)), (.int (0 : Int32)), (.int (0 : Int32)), (.int (0 : Int32))] (.int (0 : Int32)) := V57.pad (pad_rep [] (.int (0 : Int32)) 8)
  exact retA d_jdk_52_method_2_6 rfl rfl rfl (by decide) (by decide) ⟨a54, _, rfl, keepExt K, sz_a54, V57⟩
set_option maxRecDepth 65536 in
set_option maxHeartbeats 40000000 in
theorem rm_tb (l : Launch) (Z : State) (a0 : Array Value) (hw : ∀ d ∈ tables_1, d.before a0 Z = true) (hEL : EW Z a0 []) (n0 : Nat) (s : Addr) (ks : ClassId) (dv : Value)(d0 d1 d2 d3 : Int32) (h : Heap) (As : Arv Z h s ks .char (4 : Int32) [(.int d0), (.int d1), (.int d2), (.int d3)] dv) (hU : Us Z) :
    Met l true Z [] n0 (⟨"java/lang/StringUTF16", "toBytes", "([CII)[B"⟩ : MethodName) jdk_52_method_14_code 5 (some (.array .byte)) ({ frames := 2, cells := 1, slots := 8, locals := 30 } : Room) [] #[(.ref s), (.int (0 : Int32)), (.int (4 : Int32))] [] h (fun v h' => ∃ b kb, v = some (.ref b) ∧ Ext h h' ∧ Arv Z h' b kb .byte (8 : Int32) (wb d0 d1 d2 d3) (.int (0 : Int32))) := by
  refine Met.of_body (a0 := a0) (L0 := #[.val (.ref s), .val (.int (0 : Int32)), .val (.int (4 : Int32)), .unset, .unset]) (plainFor_of_name (by first | (simp [plainName, overriddenIn]; done) | decide +kernel)) (fun m => by first | rfl | (simp [entryFrame, mkF, argsToLocals, Value.category]; done)) hw hEL (by decide) ?_
  have K : Keep h h [] := Keep.refl _ _
  refine iloadN (pc' := 1) d_jdk_52_method_14_0 rfl rfl ?_
  refine old fun O0 _ => ?_
  refine call (i := 41) (i2 := 18) (Wd := 0) (pc' := 4) (kStatic (i := 39) (i2 := 40) (i3 := 18) (i4 := 41) (argsL := [(.int (4 : Int32))]) (S' := []) (Wd := 0) d_jdk_52_method_14_1 rfl rfl rfl rfl (by decide) rfl pd_1 rfl rfl (Nat.le_of_ble_eq_true rfl)) (rm_nbf l Z a0 hw hEL n0 _) rfl rfl (by simp) (by decide) (by decide) (by decide) (by decide) rfl fun v_ h59 P60 sz61 => ?_
  obtain ⟨b, kb, rfl, Xb, sz_b, Ab⟩ := P60
  have ne_s_b : s ≠ b := Nat.ne_of_lt (Nat.lt_of_lt_of_le As.lt sz_b)
  replace K := K.ext Xb
  replace As := As.ext Xb
  refine at' (ce' := 1) (sl' := 8) (pc' := 4) (L' := #[.val (.ref s), .val (.int (0 : Int32)), .val (.int (4 : Int32)), .unset, .unset]) (S' := [(.ref b)]) rfl rfl rfl rfl rfl ?_
  refine adopt rfl (by have := O0.2.1; rw [O0.1] at this; exact Nat.le_trans this sz_b) Ab.lt ?_
  refine astoreN (pc' := 5) (L' := #[.val (.ref s), .val (.int (0 : Int32)), .val (.int (4 : Int32)), .val (.ref b), .unset]) d_jdk_52_method_14_4 rfl rfl rfl ?_
  refine iconst (pc' := 6) (v := (0 : Int32)) d_jdk_52_method_14_5 rfl rfl ?_
  refine istore (pc' := 8) (L' := #[.val (.ref s), .val (.int (0 : Int32)), .val (.int (4 : Int32)), .val (.ref b), .val (.int (0 : Int32))]) d_jdk_52_method_14_6 rfl rfl ?_
  refine iload (pc' := 10) d_jdk_52_method_14_8 rfl rfl ?_
  refine iloadN (pc' := 11) d_jdk_52_method_14_10 rfl rfl ?_
  refine icmpF (pc' := 14) d_jdk_52_method_14_11 (by decide : (0 : Int32) < (4 : Int32)) rfl ?_
  refine aloadN (pc' := 15) d_jdk_52_method_14_14 rfl rfl rfl ?_
  refine iload (pc' := 17) d_jdk_52_method_14_15 rfl rfl ?_
  refine aloadN (pc' := 18) d_jdk_52_method_14_17 rfl rfl rfl ?_
  refine iloadN (pc' := 19) d_jdk_52_method_14_18 rfl rfl ?_
  refine caload (v := .int d0) (pc' := 20) d_jdk_52_method_14_19 As ⟨by decide, by decide⟩ rfl rfl ?_
  refine call (i := 48) (i2 := 18) (Wd := 0) (pc' := 23) (kStatic (i := 46) (i2 := 47) (i3 := 18) (i4 := 48) (argsL := [(.ref b), (.int (0 : Int32)), (.int d0)]) (S' := []) (Wd := 0) d_jdk_52_method_14_20 rfl rfl rfl rfl (by decide) rfl pd_2 rfl rfl (Nat.le_of_ble_eq_true rfl)) (rm_put0 l Z a0 hw hEL n0 b kb (0 : Int32) (0 : Int32) (0 : Int32) (0 : Int32) (0 : Int32) (0 : Int32) (0 : Int32) (0 : Int32) d0 _ Ab hU) rfl rfl (by simp) (by decide) (by decide) (by decide) (by decide) rfl fun v_ h62 P63 sz64 => ?_
  obtain ⟨rfl, K0, A0⟩ := P63
  replace K := K.trans K0 (allS (Or.inr sz_b) all0)
  replace As := As.keep K0 (ninS ne_s_b nin0)
  replace Ab := A0
  refine at' (ce' := 1) (sl' := 8) (pc' := 23) (L' := #[.val (.ref s), .val (.int (0 : Int32)), .val (.int (4 : Int32)), .val (.ref b), .val (.int (0 : Int32))]) (S' := []) rfl rfl rfl rfl rfl ?_
  refine iinc (pc' := 26) (v := (1 : Int32)) (L' := #[.val (.ref s), .val (.int (1 : Int32)), .val (.int (4 : Int32)), .val (.ref b), .val (.int (0 : Int32))]) d_jdk_52_method_14_23 rfl rfl rfl rfl ?_
  refine iinc (pc' := 29) (v := (1 : Int32)) (L' := #[.val (.ref s), .val (.int (1 : Int32)), .val (.int (4 : Int32)), .val (.ref b), .val (.int (1 : Int32))]) d_jdk_52_method_14_26 rfl rfl rfl rfl ?_
  refine goto (pc' := 8) d_jdk_52_method_14_29 (by decide) rfl ?_
  refine iload (pc' := 10) d_jdk_52_method_14_8 rfl rfl ?_
  refine iloadN (pc' := 11) d_jdk_52_method_14_10 rfl rfl ?_
  refine icmpF (pc' := 14) d_jdk_52_method_14_11 (by decide : (1 : Int32) < (4 : Int32)) rfl ?_
  refine aloadN (pc' := 15) d_jdk_52_method_14_14 rfl rfl rfl ?_
  refine iload (pc' := 17) d_jdk_52_method_14_15 rfl rfl ?_
  refine aloadN (pc' := 18) d_jdk_52_method_14_17 rfl rfl rfl ?_
  refine iloadN (pc' := 19) d_jdk_52_method_14_18 rfl rfl ?_
  refine caload (v := .int d1) (pc' := 20) d_jdk_52_method_14_19 As ⟨by decide, by decide⟩ rfl rfl ?_
  refine call (i := 48) (i2 := 18) (Wd := 0) (pc' := 23) (kStatic (i := 46) (i2 := 47) (i3 := 18) (i4 := 48) (argsL := [(.ref b), (.int (1 : Int32)), (.int d1)]) (S' := []) (Wd := 0) d_jdk_52_method_14_20 rfl rfl rfl rfl (by decide) rfl pd_2 rfl rfl (Nat.le_of_ble_eq_true rfl)) (rm_put1 l Z a0 hw hEL n0 b kb (lo8 d0) (hi8 d0) (0 : Int32) (0 : Int32) (0 : Int32) (0 : Int32) (0 : Int32) (0 : Int32) d1 _ Ab hU) rfl rfl (by simp) (by decide) (by decide) (by decide) (by decide) rfl fun v_ h65 P66 sz67 => ?_
  obtain ⟨rfl, K1, A1⟩ := P66
  replace K := K.trans K1 (allS (Or.inr sz_b) all0)
  replace As := As.keep K1 (ninS ne_s_b nin0)
  replace Ab := A1
  refine at' (ce' := 1) (sl' := 8) (pc' := 23) (L' := #[.val (.ref s), .val (.int (1 : Int32)), .val (.int (4 : Int32)), .val (.ref b), .val (.int (1 : Int32))]) (S' := []) rfl rfl rfl rfl rfl ?_
  refine iinc (pc' := 26) (v := (2 : Int32)) (L' := #[.val (.ref s), .val (.int (2 : Int32)), .val (.int (4 : Int32)), .val (.ref b), .val (.int (1 : Int32))]) d_jdk_52_method_14_23 rfl rfl rfl rfl ?_
  refine iinc (pc' := 29) (v := (2 : Int32)) (L' := #[.val (.ref s), .val (.int (2 : Int32)), .val (.int (4 : Int32)), .val (.ref b), .val (.int (2 : Int32))]) d_jdk_52_method_14_26 rfl rfl rfl rfl ?_
  refine goto (pc' := 8) d_jdk_52_method_14_29 (by decide) rfl ?_
  refine iload (pc' := 10) d_jdk_52_method_14_8 rfl rfl ?_
  refine iloadN (pc' := 11) d_jdk_52_method_14_10 rfl rfl ?_
  refine icmpF (pc' := 14) d_jdk_52_method_14_11 (by decide : (2 : Int32) < (4 : Int32)) rfl ?_
  refine aloadN (pc' := 15) d_jdk_52_method_14_14 rfl rfl rfl ?_
  refine iload (pc' := 17) d_jdk_52_method_14_15 rfl rfl ?_
  refine aloadN (pc' := 18) d_jdk_52_method_14_17 rfl rfl rfl ?_
  refine iloadN (pc' := 19) d_jdk_52_method_14_18 rfl rfl ?_
  refine caload (v := .int d2) (pc' := 20) d_jdk_52_method_14_19 As ⟨by decide, by decide⟩ rfl rfl ?_
  refine call (i := 48) (i2 := 18) (Wd := 0) (pc' := 23) (kStatic (i := 46) (i2 := 47) (i3 := 18) (i4 := 48) (argsL := [(.ref b), (.int (2 : Int32)), (.int d2)]) (S' := []) (Wd := 0) d_jdk_52_method_14_20 rfl rfl rfl rfl (by decide) rfl pd_2 rfl rfl (Nat.le_of_ble_eq_true rfl)) (rm_put2 l Z a0 hw hEL n0 b kb (lo8 d0) (hi8 d0) (lo8 d1) (hi8 d1) (0 : Int32) (0 : Int32) (0 : Int32) (0 : Int32) d2 _ Ab hU) rfl rfl (by simp) (by decide) (by decide) (by decide) (by decide) rfl fun v_ h68 P69 sz70 => ?_
  obtain ⟨rfl, K2, A2⟩ := P69
  replace K := K.trans K2 (allS (Or.inr sz_b) all0)
  replace As := As.keep K2 (ninS ne_s_b nin0)
  replace Ab := A2
  refine at' (ce' := 1) (sl' := 8) (pc' := 23) (L' := #[.val (.ref s), .val (.int (2 : Int32)), .val (.int (4 : Int32)), .val (.ref b), .val (.int (2 : Int32))]) (S' := []) rfl rfl rfl rfl rfl ?_
  refine iinc (pc' := 26) (v := (3 : Int32)) (L' := #[.val (.ref s), .val (.int (3 : Int32)), .val (.int (4 : Int32)), .val (.ref b), .val (.int (2 : Int32))]) d_jdk_52_method_14_23 rfl rfl rfl rfl ?_
  refine iinc (pc' := 29) (v := (3 : Int32)) (L' := #[.val (.ref s), .val (.int (3 : Int32)), .val (.int (4 : Int32)), .val (.ref b), .val (.int (3 : Int32))]) d_jdk_52_method_14_26 rfl rfl rfl rfl ?_
  refine goto (pc' := 8) d_jdk_52_method_14_29 (by decide) rfl ?_
  refine iload (pc' := 10) d_jdk_52_method_14_8 rfl rfl ?_
  refine iloadN (pc' := 11) d_jdk_52_method_14_10 rfl rfl ?_
  refine icmpF (pc' := 14) d_jdk_52_method_14_11 (by decide : (3 : Int32) < (4 : Int32)) rfl ?_
  refine aloadN (pc' := 15) d_jdk_52_method_14_14 rfl rfl rfl ?_
  refine iload (pc' := 17) d_jdk_52_method_14_15 rfl rfl ?_
  refine aloadN (pc' := 18) d_jdk_52_method_14_17 rfl rfl rfl ?_
  refine iloadN (pc' := 19) d_jdk_52_method_14_18 rfl rfl ?_
  refine caload (v := .int d3) (pc' := 20) d_jdk_52_method_14_19 As ⟨by decide, by decide⟩ rfl rfl ?_
  refine call (i := 48) (i2 := 18) (Wd := 0) (pc' := 23) (kStatic (i := 46) (i2 := 47) (i3 := 18) (i4 := 48) (argsL := [(.ref b), (.int (3 : Int32)), (.int d3)]) (S' := []) (Wd := 0) d_jdk_52_method_14_20 rfl rfl rfl rfl (by decide) rfl pd_2 rfl rfl (Nat.le_of_ble_eq_true rfl)) (rm_put3 l Z a0 hw hEL n0 b kb (lo8 d0) (hi8 d0) (lo8 d1) (hi8 d1) (lo8 d2) (hi8 d2) (0 : Int32) (0 : Int32) d3 _ Ab hU) rfl rfl (by simp) (by decide) (by decide) (by decide) (by decide) rfl fun v_ h71 P72 sz73 => ?_
  obtain ⟨rfl, K3, A3⟩ := P72
  replace K := K.trans K3 (allS (Or.inr sz_b) all0)
  replace As := As.keep K3 (ninS ne_s_b nin0)
  replace Ab := A3
  refine at' (ce' := 1) (sl' := 8) (pc' := 23) (L' := #[.val (.ref s), .val (.int (3 : Int32)), .val (.int (4 : Int32)), .val (.ref b), .val (.int (3 : Int32))]) (S' := []) rfl rfl rfl rfl rfl ?_
  refine iinc (pc' := 26) (v := (4 : Int32)) (L' := #[.val (.ref s), .val (.int (4 : Int32)), .val (.int (4 : Int32)), .val (.ref b), .val (.int (3 : Int32))]) d_jdk_52_method_14_23 rfl rfl rfl rfl ?_
  refine iinc (pc' := 29) (v := (4 : Int32)) (L' := #[.val (.ref s), .val (.int (4 : Int32)), .val (.int (4 : Int32)), .val (.ref b), .val (.int (4 : Int32))]) d_jdk_52_method_14_26 rfl rfl rfl rfl ?_
  refine goto (pc' := 8) d_jdk_52_method_14_29 (by decide) rfl ?_
  refine iload (pc' := 10) d_jdk_52_method_14_8 rfl rfl ?_
  refine iloadN (pc' := 11) d_jdk_52_method_14_10 rfl rfl ?_
  refine icmpT (pc' := 32) d_jdk_52_method_14_11 (by decide : ¬ ((4 : Int32) < (4 : Int32))) (by decide) rfl ?_
  refine aloadN (pc' := 33) d_jdk_52_method_14_32 rfl rfl rfl ?_
  exact retA d_jdk_52_method_14_33 rfl rfl rfl (by decide) (by decide) ⟨b, kb, rfl, keepExt K, Ab⟩
set_option maxRecDepth 65536 in
set_option maxHeartbeats 40000000 in
theorem rm_cp0 (l : Launch) (Z : State) (a0 : Array Value) (hw : ∀ d ∈ tables_1, d.before a0 Z = true) (hEL : EW Z a0 []) (n0 : Nat) (s : Addr) (ks : ClassId) (dv : Value)(d0 d1 d2 d3 : Int32) (b : Addr) (kb : ClassId) (h : Heap) (As : Arv Z h s ks .char (4 : Int32) [(.int d0), (.int d1), (.int d2), (.int d3)] dv) (Ab : Arv Z h b kb .byte (4 : Int32) [(.int (0 : Int32)), (.int (0 : Int32)), (.int (0 : Int32)), (.int (0 : Int32))] (.int (0 : Int32))) (ne_s_b : s ≠ b)  (gt : (255 : Int32) < d0) :
    Met l true Z [] n0 (⟨"java/lang/StringUTF16", "compress", "([CI[BII)I"⟩ : MethodName) jdk_52_method_21_code 7 (some .int) ({ frames := 0, cells := 0, slots := 0, locals := 0 } : Room) [] #[(.ref s), (.int (0 : Int32)), (.ref b), (.int (0 : Int32)), (.int (4 : Int32))] [b] h (fun v h' => v = some (.int 0) ∧ Keep h h' [b]) := by
  refine Met.of_body (a0 := a0) (L0 := #[.val (.ref s), .val (.int (0 : Int32)), .val (.ref b), .val (.int (0 : Int32)), .val (.int (4 : Int32)), .unset, .unset]) (plainFor_of_name (by first | (simp [plainName, overriddenIn]; done) | decide +kernel)) (fun m => by first | rfl | (simp [entryFrame, mkF, argsToLocals, Value.category]; done)) hw hEL (by decide) ?_
  have K : Keep h h [b] := Keep.refl _ _
  refine iconst (pc' := 1) (v := (0 : Int32)) d_jdk_52_method_21_0 rfl rfl ?_
  refine istore (pc' := 3) (L' := #[.val (.ref s), .val (.int (0 : Int32)), .val (.ref b), .val (.int (0 : Int32)), .val (.int (4 : Int32)), .val (.int (0 : Int32)), .unset]) d_jdk_52_method_21_1 rfl rfl ?_
  refine iload (pc' := 5) d_jdk_52_method_21_3 rfl rfl ?_
  refine iload (pc' := 7) d_jdk_52_method_21_5 rfl rfl ?_
  refine icmpF (pc' := 10) d_jdk_52_method_21_7 (by decide : (0 : Int32) < (4 : Int32)) rfl ?_
  refine aloadN (pc' := 11) d_jdk_52_method_21_10 rfl rfl rfl ?_
  refine iloadN (pc' := 12) d_jdk_52_method_21_11 rfl rfl ?_
  refine caload (v := .int d0) (pc' := 13) d_jdk_52_method_21_12 As ⟨by decide, by decide⟩ rfl rfl ?_
  refine istore (pc' := 15) (L' := #[.val (.ref s), .val (.int (0 : Int32)), .val (.ref b), .val (.int (0 : Int32)), .val (.int (4 : Int32)), .val (.int (0 : Int32)), .val (.int d0)]) d_jdk_52_method_21_13 rfl rfl ?_
  refine iload (pc' := 17) d_jdk_52_method_21_15 rfl rfl ?_
  refine sipush (pc' := 20) (v := (255 : Int32)) d_jdk_52_method_21_17 rfl rfl ?_
  refine icmpF (pc' := 23) d_jdk_52_method_21_20 (gt : (255 : Int32) < d0) rfl ?_
  refine iload (pc' := 25) d_jdk_52_method_21_23 rfl rfl ?_
  exact retI d_jdk_52_method_21_25 rfl (Or.inl rfl) rfl (by decide) (by decide) ⟨rfl, K⟩
set_option maxRecDepth 65536 in
set_option maxHeartbeats 40000000 in
theorem rm_cA0 (l : Launch) (Z : State) (a0 : Array Value) (hw : ∀ d ∈ tables_1, d.before a0 Z = true) (hEL : EW Z a0 []) (n0 : Nat) (s : Addr) (ks : ClassId) (dv : Value)(d0 d1 d2 d3 : Int32) (h : Heap) (As : Arv Z h s ks .char (4 : Int32) [(.int d0), (.int d1), (.int d2), (.int d3)] dv) (hU : Us Z) (hd : ch d0)  (gt : (255 : Int32) < d0) :
    Met l true Z [] n0 (⟨"java/lang/StringUTF16", "compress", "([CII)[B"⟩ : MethodName) jdk_52_method_16_code 6 (some (.array .byte)) ({ frames := 3, cells := 2, slots := 12, locals := 48 } : Room) [] #[(.ref s), (.int (0 : Int32)), (.int (4 : Int32))] [] h (fun v h' => ∃ b kb, v = some (.ref b) ∧ Ext h h' ∧ Arv Z h' b kb .byte (8 : Int32) (wb d0 d1 d2 d3) (.int (0 : Int32))) := by
  refine Met.of_body (a0 := a0) (L0 := #[.val (.ref s), .val (.int (0 : Int32)), .val (.int (4 : Int32)), .unset, .unset, .unset]) (plainFor_of_name (by first | (simp [plainName, overriddenIn]; done) | decide +kernel)) (fun m => by first | rfl | (simp [entryFrame, mkF, argsToLocals, Value.category]; done)) hw hEL (by decide) ?_
  have K : Keep h h [] := Keep.refl _ _
  refine iloadN (pc' := 1) d_jdk_52_method_16_0 rfl rfl ?_
  refine newarray (i := 20) (cap := 4) (ty := .byte) (pc' := 3) d_jdk_52_method_16_1 rfl rfl (by decide) (by decide) (by decide) (by decide) (by decide) rfl fun h74 a75 kc79 g76 E77 V78 => ?_
  have sz_a75 : h.size ≤ a75 := by rw [g76]; exact K.1
  have ne_s_a75 : s ≠ a75 := Nat.ne_of_lt (by rw [g76]; exact As.lt)
  replace K := K.ext E77
  replace As := As.ext E77
  replace V78 : Arv Z h74 a75 kc79 .byte (4 : Int32) [(.int (0 : Int32)), (.int (0 : Int32)), (.int (0 : Int32)), (.int (0 : Int32))] (.int (0 : Int32)) := V78.pad (pad_rep [] (.int (0 : Int32)) 4)
  refine astoreN (pc' := 4) (L' := #[.val (.ref s), .val (.int (0 : Int32)), .val (.int (4 : Int32)), .val (.ref a75), .unset, .unset]) d_jdk_52_method_16_3 rfl rfl rfl ?_
  refine aloadN (pc' := 5) d_jdk_52_method_16_4 rfl rfl rfl ?_
  refine iloadN (pc' := 6) d_jdk_52_method_16_5 rfl rfl ?_
  refine aloadN (pc' := 7) d_jdk_52_method_16_6 rfl rfl rfl ?_
  refine iconst (pc' := 8) (v := (0 : Int32)) d_jdk_52_method_16_7 rfl rfl ?_
  refine iloadN (pc' := 9) d_jdk_52_method_16_8 rfl rfl ?_
  refine call (i := 23) (i2 := 18) (Wd := 0) (pc' := 12) (kStatic (i := 21) (i2 := 22) (i3 := 18) (i4 := 23) (argsL := [(.ref s), (.int (0 : Int32)), (.ref a75), (.int (0 : Int32)), (.int (4 : Int32))]) (S' := []) (Wd := 0) d_jdk_52_method_16_9 rfl rfl rfl rfl (by decide) rfl pd_3 rfl rfl (Nat.le_of_ble_eq_true rfl)) (rm_cp0 l Z a0 hw hEL n0 s ks dv d0 d1 d2 d3 a75 kc79 _ As V78 ne_s_a75  gt) rfl rfl (by simp) (by decide) (by decide) (by decide) (by decide) rfl fun v_ h80 P81 sz82 => ?_
  obtain ⟨rfl, Kc⟩ := P81
  replace K := K.trans Kc (allS (Or.inr sz_a75) all0)
  replace As := As.keep Kc (ninS ne_s_a75 nin0)
  refine at' (ce' := 1) (sl' := 4) (pc' := 12) (L' := #[.val (.ref s), .val (.int (0 : Int32)), .val (.int (4 : Int32)), .val (.ref a75), .unset, .unset]) (S' := [(.int (0 : Int32))]) rfl rfl rfl rfl rfl ?_
  refine istore (pc' := 14) (L' := #[.val (.ref s), .val (.int (0 : Int32)), .val (.int (4 : Int32)), .val (.ref a75), .val (.int (0 : Int32)), .unset]) d_jdk_52_method_16_12 rfl rfl ?_
  refine iload (pc' := 16) d_jdk_52_method_16_14 rfl rfl ?_
  refine iloadN (pc' := 17) d_jdk_52_method_16_16 rfl rfl ?_
  refine icmpF (pc' := 20) d_jdk_52_method_16_17 (by decide : ¬ ((0 : Int32) = (4 : Int32))) rfl ?_
  refine aloadN (pc' := 21) d_jdk_52_method_16_20 rfl rfl rfl ?_
  refine iloadN (pc' := 22) d_jdk_52_method_16_21 rfl rfl ?_
  refine iloadN (pc' := 23) d_jdk_52_method_16_22 rfl rfl ?_
  refine call (i := 38) (i2 := 18) (Wd := 0) (pc' := 26) (kStatic (i := 36) (i2 := 37) (i3 := 18) (i4 := 38) (argsL := [(.ref s), (.int (0 : Int32)), (.int (4 : Int32))]) (S' := []) (Wd := 0) d_jdk_52_method_16_23 rfl rfl rfl rfl (by decide) rfl pd_4 rfl rfl (Nat.le_of_ble_eq_true rfl)) (rm_tb l Z a0 hw hEL n0 s ks dv d0 d1 d2 d3 _ As hU) rfl rfl (by simp) (by decide) (by decide) (by decide) (by decide) rfl fun v_ h83 P84 sz85 => ?_
  obtain ⟨r, kr, rfl, Xr, Ar⟩ := P84
  replace K := K.ext Xr
  replace As := As.ext Xr
  refine at' (ce' := 2) (sl' := 12) (pc' := 26) (L' := #[.val (.ref s), .val (.int (0 : Int32)), .val (.int (4 : Int32)), .val (.ref a75), .val (.int (0 : Int32)), .unset]) (S' := [(.ref r)]) rfl rfl rfl rfl rfl ?_
  refine astore (pc' := 28) (L' := #[.val (.ref s), .val (.int (0 : Int32)), .val (.int (4 : Int32)), .val (.ref a75), .val (.int (0 : Int32)), .val (.ref r)]) d_jdk_52_method_16_26 rfl rfl rfl ?_
  refine aload (pc' := 30) d_jdk_52_method_16_28 rfl rfl rfl ?_
  refine iload (pc' := 32) d_jdk_52_method_16_30 rfl rfl ?_
  refine call (i := 54) (i2 := 18) (Wd := 0) (pc' := 35) (kStatic (i := 52) (i2 := 53) (i3 := 18) (i4 := 54) (argsL := [(.ref r), (.int (0 : Int32))]) (S' := []) (Wd := 0) d_jdk_52_method_16_32 rfl rfl rfl rfl (by decide) rfl pd_5 rfl rfl (Nat.le_of_ble_eq_true rfl)) (rm_get0 l Z a0 hw hEL n0 r kr d0 d1 d2 d3 _ Ar hU hd) rfl rfl (by simp) (by decide) (by decide) (by decide) (by decide) rfl fun v_ h86 P87 sz88 => ?_
  obtain ⟨rfl, e89⟩ := P87
  rw [e89]
  refine at' (ce' := 2) (sl' := 12) (pc' := 35) (L' := #[.val (.ref s), .val (.int (0 : Int32)), .val (.int (4 : Int32)), .val (.ref a75), .val (.int (0 : Int32)), .val (.ref r)]) (S' := [(.int d0)]) rfl rfl rfl rfl rfl ?_
  refine sipush (pc' := 38) (v := (255 : Int32)) d_jdk_52_method_16_35 rfl rfl ?_
  refine icmpT (pc' := 54) d_jdk_52_method_16_38 (gt : (255 : Int32) < d0) (by decide) rfl ?_
  refine aload (pc' := 56) d_jdk_52_method_16_54 rfl rfl rfl ?_
  exact retA d_jdk_52_method_16_56 rfl rfl rfl (by decide) (by decide) ⟨r, kr, rfl, keepExt K, Ar⟩
set_option maxRecDepth 65536 in
set_option maxHeartbeats 40000000 in
theorem rm_cp1 (l : Launch) (Z : State) (a0 : Array Value) (hw : ∀ d ∈ tables_1, d.before a0 Z = true) (hEL : EW Z a0 []) (n0 : Nat) (s : Addr) (ks : ClassId) (dv : Value)(d0 d1 d2 d3 : Int32) (b : Addr) (kb : ClassId) (h : Heap) (As : Arv Z h s ks .char (4 : Int32) [(.int d0), (.int d1), (.int d2), (.int d3)] dv) (Ab : Arv Z h b kb .byte (4 : Int32) [(.int (0 : Int32)), (.int (0 : Int32)), (.int (0 : Int32)), (.int (0 : Int32))] (.int (0 : Int32))) (ne_s_b : s ≠ b) (g0 : ¬ (255 : Int32) < d0) (gt : (255 : Int32) < d1) :
    Met l true Z [] n0 (⟨"java/lang/StringUTF16", "compress", "([CI[BII)I"⟩ : MethodName) jdk_52_method_21_code 7 (some .int) ({ frames := 0, cells := 0, slots := 0, locals := 0 } : Room) [] #[(.ref s), (.int (0 : Int32)), (.ref b), (.int (0 : Int32)), (.int (4 : Int32))] [b] h (fun v h' => v = some (.int 1) ∧ Keep h h' [b]) := by
  refine Met.of_body (a0 := a0) (L0 := #[.val (.ref s), .val (.int (0 : Int32)), .val (.ref b), .val (.int (0 : Int32)), .val (.int (4 : Int32)), .unset, .unset]) (plainFor_of_name (by first | (simp [plainName, overriddenIn]; done) | decide +kernel)) (fun m => by first | rfl | (simp [entryFrame, mkF, argsToLocals, Value.category]; done)) hw hEL (by decide) ?_
  have K : Keep h h [b] := Keep.refl _ _
  refine iconst (pc' := 1) (v := (0 : Int32)) d_jdk_52_method_21_0 rfl rfl ?_
  refine istore (pc' := 3) (L' := #[.val (.ref s), .val (.int (0 : Int32)), .val (.ref b), .val (.int (0 : Int32)), .val (.int (4 : Int32)), .val (.int (0 : Int32)), .unset]) d_jdk_52_method_21_1 rfl rfl ?_
  refine iload (pc' := 5) d_jdk_52_method_21_3 rfl rfl ?_
  refine iload (pc' := 7) d_jdk_52_method_21_5 rfl rfl ?_
  refine icmpF (pc' := 10) d_jdk_52_method_21_7 (by decide : (0 : Int32) < (4 : Int32)) rfl ?_
  refine aloadN (pc' := 11) d_jdk_52_method_21_10 rfl rfl rfl ?_
  refine iloadN (pc' := 12) d_jdk_52_method_21_11 rfl rfl ?_
  refine caload (v := .int d0) (pc' := 13) d_jdk_52_method_21_12 As ⟨by decide, by decide⟩ rfl rfl ?_
  refine istore (pc' := 15) (L' := #[.val (.ref s), .val (.int (0 : Int32)), .val (.ref b), .val (.int (0 : Int32)), .val (.int (4 : Int32)), .val (.int (0 : Int32)), .val (.int d0)]) d_jdk_52_method_21_13 rfl rfl ?_
  refine iload (pc' := 17) d_jdk_52_method_21_15 rfl rfl ?_
  refine sipush (pc' := 20) (v := (255 : Int32)) d_jdk_52_method_21_17 rfl rfl ?_
  refine icmpT (pc' := 26) d_jdk_52_method_21_20 (g0 : ¬ ((255 : Int32) < d0)) (by decide) rfl ?_
  refine aloadN (pc' := 27) d_jdk_52_method_21_26 rfl rfl rfl ?_
  refine iloadN (pc' := 28) d_jdk_52_method_21_27 rfl rfl ?_
  refine iload (pc' := 30) d_jdk_52_method_21_28 rfl rfl ?_
  refine i2b (pc' := 31) d_jdk_52_method_21_30 rfl ?_
  refine bastore (pc' := 32) d_jdk_52_method_21_31 Ab ⟨by decide, by decide⟩ (by simp) (Nat.le_of_ble_eq_true rfl) rfl fun h90 W91 V92 => ?_
  replace K := K.wr W91 (Or.inl (by simp))
  replace As := As.other W91 ne_s_b
  replace Ab : Arv Z h90 b kb .byte (4 : Int32) [(.int (nar .byte (d0.toInt8.toInt32))), (.int (0 : Int32)), (.int (0 : Int32)), (.int (0 : Int32))] (.int (0 : Int32)) := V92
  refine iinc (pc' := 35) (v := (1 : Int32)) (L' := #[.val (.ref s), .val (.int (1 : Int32)), .val (.ref b), .val (.int (0 : Int32)), .val (.int (4 : Int32)), .val (.int (0 : Int32)), .val (.int d0)]) d_jdk_52_method_21_32 rfl rfl rfl rfl ?_
  refine iinc (pc' := 38) (v := (1 : Int32)) (L' := #[.val (.ref s), .val (.int (1 : Int32)), .val (.ref b), .val (.int (1 : Int32)), .val (.int (4 : Int32)), .val (.int (0 : Int32)), .val (.int d0)]) d_jdk_52_method_21_35 rfl rfl rfl rfl ?_
  refine iinc (pc' := 41) (v := (1 : Int32)) (L' := #[.val (.ref s), .val (.int (1 : Int32)), .val (.ref b), .val (.int (1 : Int32)), .val (.int (4 : Int32)), .val (.int (1 : Int32)), .val (.int d0)]) d_jdk_52_method_21_38 rfl rfl rfl rfl ?_
  refine goto (pc' := 3) d_jdk_52_method_21_41 (by decide) rfl ?_
  refine iload (pc' := 5) d_jdk_52_method_21_3 rfl rfl ?_
  refine iload (pc' := 7) d_jdk_52_method_21_5 rfl rfl ?_
  refine icmpF (pc' := 10) d_jdk_52_method_21_7 (by decide : (1 : Int32) < (4 : Int32)) rfl ?_
  refine aloadN (pc' := 11) d_jdk_52_method_21_10 rfl rfl rfl ?_
  refine iloadN (pc' := 12) d_jdk_52_method_21_11 rfl rfl ?_
  refine caload (v := .int d1) (pc' := 13) d_jdk_52_method_21_12 As ⟨by decide, by decide⟩ rfl rfl ?_
  refine istore (pc' := 15) (L' := #[.val (.ref s), .val (.int (1 : Int32)), .val (.ref b), .val (.int (1 : Int32)), .val (.int (4 : Int32)), .val (.int (1 : Int32)), .val (.int d1)]) d_jdk_52_method_21_13 rfl rfl ?_
  refine iload (pc' := 17) d_jdk_52_method_21_15 rfl rfl ?_
  refine sipush (pc' := 20) (v := (255 : Int32)) d_jdk_52_method_21_17 rfl rfl ?_
  refine icmpF (pc' := 23) d_jdk_52_method_21_20 (gt : (255 : Int32) < d1) rfl ?_
  refine iload (pc' := 25) d_jdk_52_method_21_23 rfl rfl ?_
  exact retI d_jdk_52_method_21_25 rfl (Or.inl rfl) rfl (by decide) (by decide) ⟨rfl, K⟩
set_option maxRecDepth 65536 in
set_option maxHeartbeats 40000000 in
theorem rm_cA1 (l : Launch) (Z : State) (a0 : Array Value) (hw : ∀ d ∈ tables_1, d.before a0 Z = true) (hEL : EW Z a0 []) (n0 : Nat) (s : Addr) (ks : ClassId) (dv : Value)(d0 d1 d2 d3 : Int32) (h : Heap) (As : Arv Z h s ks .char (4 : Int32) [(.int d0), (.int d1), (.int d2), (.int d3)] dv) (hU : Us Z) (hd : ch d1) (g0 : ¬ (255 : Int32) < d0) (gt : (255 : Int32) < d1) :
    Met l true Z [] n0 (⟨"java/lang/StringUTF16", "compress", "([CII)[B"⟩ : MethodName) jdk_52_method_16_code 6 (some (.array .byte)) ({ frames := 3, cells := 2, slots := 12, locals := 48 } : Room) [] #[(.ref s), (.int (0 : Int32)), (.int (4 : Int32))] [] h (fun v h' => ∃ b kb, v = some (.ref b) ∧ Ext h h' ∧ Arv Z h' b kb .byte (8 : Int32) (wb d0 d1 d2 d3) (.int (0 : Int32))) := by
  refine Met.of_body (a0 := a0) (L0 := #[.val (.ref s), .val (.int (0 : Int32)), .val (.int (4 : Int32)), .unset, .unset, .unset]) (plainFor_of_name (by first | (simp [plainName, overriddenIn]; done) | decide +kernel)) (fun m => by first | rfl | (simp [entryFrame, mkF, argsToLocals, Value.category]; done)) hw hEL (by decide) ?_
  have K : Keep h h [] := Keep.refl _ _
  refine iloadN (pc' := 1) d_jdk_52_method_16_0 rfl rfl ?_
  refine newarray (i := 20) (cap := 4) (ty := .byte) (pc' := 3) d_jdk_52_method_16_1 rfl rfl (by decide) (by decide) (by decide) (by decide) (by decide) rfl fun h93 a94 kc98 g95 E96 V97 => ?_
  have sz_a94 : h.size ≤ a94 := by rw [g95]; exact K.1
  have ne_s_a94 : s ≠ a94 := Nat.ne_of_lt (by rw [g95]; exact As.lt)
  replace K := K.ext E96
  replace As := As.ext E96
  replace V97 : Arv Z h93 a94 kc98 .byte (4 : Int32) [(.int (0 : Int32)), (.int (0 : Int32)), (.int (0 : Int32)), (.int (0 : Int32))] (.int (0 : Int32)) := V97.pad (pad_rep [] (.int (0 : Int32)) 4)
  refine astoreN (pc' := 4) (L' := #[.val (.ref s), .val (.int (0 : Int32)), .val (.int (4 : Int32)), .val (.ref a94), .unset, .unset]) d_jdk_52_method_16_3 rfl rfl rfl ?_
  refine aloadN (pc' := 5) d_jdk_52_method_16_4 rfl rfl rfl ?_
  refine iloadN (pc' := 6) d_jdk_52_method_16_5 rfl rfl ?_
  refine aloadN (pc' := 7) d_jdk_52_method_16_6 rfl rfl rfl ?_
  refine iconst (pc' := 8) (v := (0 : Int32)) d_jdk_52_method_16_7 rfl rfl ?_
  refine iloadN (pc' := 9) d_jdk_52_method_16_8 rfl rfl ?_
  refine call (i := 23) (i2 := 18) (Wd := 0) (pc' := 12) (kStatic (i := 21) (i2 := 22) (i3 := 18) (i4 := 23) (argsL := [(.ref s), (.int (0 : Int32)), (.ref a94), (.int (0 : Int32)), (.int (4 : Int32))]) (S' := []) (Wd := 0) d_jdk_52_method_16_9 rfl rfl rfl rfl (by decide) rfl pd_3 rfl rfl (Nat.le_of_ble_eq_true rfl)) (rm_cp1 l Z a0 hw hEL n0 s ks dv d0 d1 d2 d3 a94 kc98 _ As V97 ne_s_a94 g0 gt) rfl rfl (by simp) (by decide) (by decide) (by decide) (by decide) rfl fun v_ h99 P100 sz101 => ?_
  obtain ⟨rfl, Kc⟩ := P100
  replace K := K.trans Kc (allS (Or.inr sz_a94) all0)
  replace As := As.keep Kc (ninS ne_s_a94 nin0)
  refine at' (ce' := 1) (sl' := 4) (pc' := 12) (L' := #[.val (.ref s), .val (.int (0 : Int32)), .val (.int (4 : Int32)), .val (.ref a94), .unset, .unset]) (S' := [(.int (1 : Int32))]) rfl rfl rfl rfl rfl ?_
  refine istore (pc' := 14) (L' := #[.val (.ref s), .val (.int (0 : Int32)), .val (.int (4 : Int32)), .val (.ref a94), .val (.int (1 : Int32)), .unset]) d_jdk_52_method_16_12 rfl rfl ?_
  refine iload (pc' := 16) d_jdk_52_method_16_14 rfl rfl ?_
  refine iloadN (pc' := 17) d_jdk_52_method_16_16 rfl rfl ?_
  refine icmpF (pc' := 20) d_jdk_52_method_16_17 (by decide : ¬ ((1 : Int32) = (4 : Int32))) rfl ?_
  refine aloadN (pc' := 21) d_jdk_52_method_16_20 rfl rfl rfl ?_
  refine iloadN (pc' := 22) d_jdk_52_method_16_21 rfl rfl ?_
  refine iloadN (pc' := 23) d_jdk_52_method_16_22 rfl rfl ?_
  refine call (i := 38) (i2 := 18) (Wd := 0) (pc' := 26) (kStatic (i := 36) (i2 := 37) (i3 := 18) (i4 := 38) (argsL := [(.ref s), (.int (0 : Int32)), (.int (4 : Int32))]) (S' := []) (Wd := 0) d_jdk_52_method_16_23 rfl rfl rfl rfl (by decide) rfl pd_4 rfl rfl (Nat.le_of_ble_eq_true rfl)) (rm_tb l Z a0 hw hEL n0 s ks dv d0 d1 d2 d3 _ As hU) rfl rfl (by simp) (by decide) (by decide) (by decide) (by decide) rfl fun v_ h102 P103 sz104 => ?_
  obtain ⟨r, kr, rfl, Xr, Ar⟩ := P103
  replace K := K.ext Xr
  replace As := As.ext Xr
  refine at' (ce' := 2) (sl' := 12) (pc' := 26) (L' := #[.val (.ref s), .val (.int (0 : Int32)), .val (.int (4 : Int32)), .val (.ref a94), .val (.int (1 : Int32)), .unset]) (S' := [(.ref r)]) rfl rfl rfl rfl rfl ?_
  refine astore (pc' := 28) (L' := #[.val (.ref s), .val (.int (0 : Int32)), .val (.int (4 : Int32)), .val (.ref a94), .val (.int (1 : Int32)), .val (.ref r)]) d_jdk_52_method_16_26 rfl rfl rfl ?_
  refine aload (pc' := 30) d_jdk_52_method_16_28 rfl rfl rfl ?_
  refine iload (pc' := 32) d_jdk_52_method_16_30 rfl rfl ?_
  refine call (i := 54) (i2 := 18) (Wd := 0) (pc' := 35) (kStatic (i := 52) (i2 := 53) (i3 := 18) (i4 := 54) (argsL := [(.ref r), (.int (1 : Int32))]) (S' := []) (Wd := 0) d_jdk_52_method_16_32 rfl rfl rfl rfl (by decide) rfl pd_5 rfl rfl (Nat.le_of_ble_eq_true rfl)) (rm_get1 l Z a0 hw hEL n0 r kr d0 d1 d2 d3 _ Ar hU hd) rfl rfl (by simp) (by decide) (by decide) (by decide) (by decide) rfl fun v_ h105 P106 sz107 => ?_
  obtain ⟨rfl, e108⟩ := P106
  rw [e108]
  refine at' (ce' := 2) (sl' := 12) (pc' := 35) (L' := #[.val (.ref s), .val (.int (0 : Int32)), .val (.int (4 : Int32)), .val (.ref a94), .val (.int (1 : Int32)), .val (.ref r)]) (S' := [(.int d1)]) rfl rfl rfl rfl rfl ?_
  refine sipush (pc' := 38) (v := (255 : Int32)) d_jdk_52_method_16_35 rfl rfl ?_
  refine icmpT (pc' := 54) d_jdk_52_method_16_38 (gt : (255 : Int32) < d1) (by decide) rfl ?_
  refine aload (pc' := 56) d_jdk_52_method_16_54 rfl rfl rfl ?_
  exact retA d_jdk_52_method_16_56 rfl rfl rfl (by decide) (by decide) ⟨r, kr, rfl, keepExt K, Ar⟩
set_option maxRecDepth 65536 in
set_option maxHeartbeats 40000000 in
theorem rm_cp2 (l : Launch) (Z : State) (a0 : Array Value) (hw : ∀ d ∈ tables_1, d.before a0 Z = true) (hEL : EW Z a0 []) (n0 : Nat) (s : Addr) (ks : ClassId) (dv : Value)(d0 d1 d2 d3 : Int32) (b : Addr) (kb : ClassId) (h : Heap) (As : Arv Z h s ks .char (4 : Int32) [(.int d0), (.int d1), (.int d2), (.int d3)] dv) (Ab : Arv Z h b kb .byte (4 : Int32) [(.int (0 : Int32)), (.int (0 : Int32)), (.int (0 : Int32)), (.int (0 : Int32))] (.int (0 : Int32))) (ne_s_b : s ≠ b) (g0 : ¬ (255 : Int32) < d0) (g1 : ¬ (255 : Int32) < d1) (gt : (255 : Int32) < d2) :
    Met l true Z [] n0 (⟨"java/lang/StringUTF16", "compress", "([CI[BII)I"⟩ : MethodName) jdk_52_method_21_code 7 (some .int) ({ frames := 0, cells := 0, slots := 0, locals := 0 } : Room) [] #[(.ref s), (.int (0 : Int32)), (.ref b), (.int (0 : Int32)), (.int (4 : Int32))] [b] h (fun v h' => v = some (.int 2) ∧ Keep h h' [b]) := by
  refine Met.of_body (a0 := a0) (L0 := #[.val (.ref s), .val (.int (0 : Int32)), .val (.ref b), .val (.int (0 : Int32)), .val (.int (4 : Int32)), .unset, .unset]) (plainFor_of_name (by first | (simp [plainName, overriddenIn]; done) | decide +kernel)) (fun m => by first | rfl | (simp [entryFrame, mkF, argsToLocals, Value.category]; done)) hw hEL (by decide) ?_
  have K : Keep h h [b] := Keep.refl _ _
  refine iconst (pc' := 1) (v := (0 : Int32)) d_jdk_52_method_21_0 rfl rfl ?_
  refine istore (pc' := 3) (L' := #[.val (.ref s), .val (.int (0 : Int32)), .val (.ref b), .val (.int (0 : Int32)), .val (.int (4 : Int32)), .val (.int (0 : Int32)), .unset]) d_jdk_52_method_21_1 rfl rfl ?_
  refine iload (pc' := 5) d_jdk_52_method_21_3 rfl rfl ?_
  refine iload (pc' := 7) d_jdk_52_method_21_5 rfl rfl ?_
  refine icmpF (pc' := 10) d_jdk_52_method_21_7 (by decide : (0 : Int32) < (4 : Int32)) rfl ?_
  refine aloadN (pc' := 11) d_jdk_52_method_21_10 rfl rfl rfl ?_
  refine iloadN (pc' := 12) d_jdk_52_method_21_11 rfl rfl ?_
  refine caload (v := .int d0) (pc' := 13) d_jdk_52_method_21_12 As ⟨by decide, by decide⟩ rfl rfl ?_
  refine istore (pc' := 15) (L' := #[.val (.ref s), .val (.int (0 : Int32)), .val (.ref b), .val (.int (0 : Int32)), .val (.int (4 : Int32)), .val (.int (0 : Int32)), .val (.int d0)]) d_jdk_52_method_21_13 rfl rfl ?_
  refine iload (pc' := 17) d_jdk_52_method_21_15 rfl rfl ?_
  refine sipush (pc' := 20) (v := (255 : Int32)) d_jdk_52_method_21_17 rfl rfl ?_
  refine icmpT (pc' := 26) d_jdk_52_method_21_20 (g0 : ¬ ((255 : Int32) < d0)) (by decide) rfl ?_
  refine aloadN (pc' := 27) d_jdk_52_method_21_26 rfl rfl rfl ?_
  refine iloadN (pc' := 28) d_jdk_52_method_21_27 rfl rfl ?_
  refine iload (pc' := 30) d_jdk_52_method_21_28 rfl rfl ?_
  refine i2b (pc' := 31) d_jdk_52_method_21_30 rfl ?_
  refine bastore (pc' := 32) d_jdk_52_method_21_31 Ab ⟨by decide, by decide⟩ (by simp) (Nat.le_of_ble_eq_true rfl) rfl fun h109 W110 V111 => ?_
  replace K := K.wr W110 (Or.inl (by simp))
  replace As := As.other W110 ne_s_b
  replace Ab : Arv Z h109 b kb .byte (4 : Int32) [(.int (nar .byte (d0.toInt8.toInt32))), (.int (0 : Int32)), (.int (0 : Int32)), (.int (0 : Int32))] (.int (0 : Int32)) := V111
  refine iinc (pc' := 35) (v := (1 : Int32)) (L' := #[.val (.ref s), .val (.int (1 : Int32)), .val (.ref b), .val (.int (0 : Int32)), .val (.int (4 : Int32)), .val (.int (0 : Int32)), .val (.int d0)]) d_jdk_52_method_21_32 rfl rfl rfl rfl ?_
  refine iinc (pc' := 38) (v := (1 : Int32)) (L' := #[.val (.ref s), .val (.int (1 : Int32)), .val (.ref b), .val (.int (1 : Int32)), .val (.int (4 : Int32)), .val (.int (0 : Int32)), .val (.int d0)]) d_jdk_52_method_21_35 rfl rfl rfl rfl ?_
  refine iinc (pc' := 41) (v := (1 : Int32)) (L' := #[.val (.ref s), .val (.int (1 : Int32)), .val (.ref b), .val (.int (1 : Int32)), .val (.int (4 : Int32)), .val (.int (1 : Int32)), .val (.int d0)]) d_jdk_52_method_21_38 rfl rfl rfl rfl ?_
  refine goto (pc' := 3) d_jdk_52_method_21_41 (by decide) rfl ?_
  refine iload (pc' := 5) d_jdk_52_method_21_3 rfl rfl ?_
  refine iload (pc' := 7) d_jdk_52_method_21_5 rfl rfl ?_
  refine icmpF (pc' := 10) d_jdk_52_method_21_7 (by decide : (1 : Int32) < (4 : Int32)) rfl ?_
  refine aloadN (pc' := 11) d_jdk_52_method_21_10 rfl rfl rfl ?_
  refine iloadN (pc' := 12) d_jdk_52_method_21_11 rfl rfl ?_
  refine caload (v := .int d1) (pc' := 13) d_jdk_52_method_21_12 As ⟨by decide, by decide⟩ rfl rfl ?_
  refine istore (pc' := 15) (L' := #[.val (.ref s), .val (.int (1 : Int32)), .val (.ref b), .val (.int (1 : Int32)), .val (.int (4 : Int32)), .val (.int (1 : Int32)), .val (.int d1)]) d_jdk_52_method_21_13 rfl rfl ?_
  refine iload (pc' := 17) d_jdk_52_method_21_15 rfl rfl ?_
  refine sipush (pc' := 20) (v := (255 : Int32)) d_jdk_52_method_21_17 rfl rfl ?_
  refine icmpT (pc' := 26) d_jdk_52_method_21_20 (g1 : ¬ ((255 : Int32) < d1)) (by decide) rfl ?_
  refine aloadN (pc' := 27) d_jdk_52_method_21_26 rfl rfl rfl ?_
  refine iloadN (pc' := 28) d_jdk_52_method_21_27 rfl rfl ?_
  refine iload (pc' := 30) d_jdk_52_method_21_28 rfl rfl ?_
  refine i2b (pc' := 31) d_jdk_52_method_21_30 rfl ?_
  refine bastore (pc' := 32) d_jdk_52_method_21_31 Ab ⟨by decide, by decide⟩ (by simp) (Nat.le_of_ble_eq_true rfl) rfl fun h112 W113 V114 => ?_
  replace K := K.wr W113 (Or.inl (by simp))
  replace As := As.other W113 ne_s_b
  replace Ab : Arv Z h112 b kb .byte (4 : Int32) [(.int (nar .byte (d0.toInt8.toInt32))), (.int (nar .byte (d1.toInt8.toInt32))), (.int (0 : Int32)), (.int (0 : Int32))] (.int (0 : Int32)) := V114
  refine iinc (pc' := 35) (v := (2 : Int32)) (L' := #[.val (.ref s), .val (.int (2 : Int32)), .val (.ref b), .val (.int (1 : Int32)), .val (.int (4 : Int32)), .val (.int (1 : Int32)), .val (.int d1)]) d_jdk_52_method_21_32 rfl rfl rfl rfl ?_
  refine iinc (pc' := 38) (v := (2 : Int32)) (L' := #[.val (.ref s), .val (.int (2 : Int32)), .val (.ref b), .val (.int (2 : Int32)), .val (.int (4 : Int32)), .val (.int (1 : Int32)), .val (.int d1)]) d_jdk_52_method_21_35 rfl rfl rfl rfl ?_
  refine iinc (pc' := 41) (v := (2 : Int32)) (L' := #[.val (.ref s), .val (.int (2 : Int32)), .val (.ref b), .val (.int (2 : Int32)), .val (.int (4 : Int32)), .val (.int (2 : Int32)), .val (.int d1)]) d_jdk_52_method_21_38 rfl rfl rfl rfl ?_
  refine goto (pc' := 3) d_jdk_52_method_21_41 (by decide) rfl ?_
  refine iload (pc' := 5) d_jdk_52_method_21_3 rfl rfl ?_
  refine iload (pc' := 7) d_jdk_52_method_21_5 rfl rfl ?_
  refine icmpF (pc' := 10) d_jdk_52_method_21_7 (by decide : (2 : Int32) < (4 : Int32)) rfl ?_
  refine aloadN (pc' := 11) d_jdk_52_method_21_10 rfl rfl rfl ?_
  refine iloadN (pc' := 12) d_jdk_52_method_21_11 rfl rfl ?_
  refine caload (v := .int d2) (pc' := 13) d_jdk_52_method_21_12 As ⟨by decide, by decide⟩ rfl rfl ?_
  refine istore (pc' := 15) (L' := #[.val (.ref s), .val (.int (2 : Int32)), .val (.ref b), .val (.int (2 : Int32)), .val (.int (4 : Int32)), .val (.int (2 : Int32)), .val (.int d2)]) d_jdk_52_method_21_13 rfl rfl ?_
  refine iload (pc' := 17) d_jdk_52_method_21_15 rfl rfl ?_
  refine sipush (pc' := 20) (v := (255 : Int32)) d_jdk_52_method_21_17 rfl rfl ?_
  refine icmpF (pc' := 23) d_jdk_52_method_21_20 (gt : (255 : Int32) < d2) rfl ?_
  refine iload (pc' := 25) d_jdk_52_method_21_23 rfl rfl ?_
  exact retI d_jdk_52_method_21_25 rfl (Or.inl rfl) rfl (by decide) (by decide) ⟨rfl, K⟩
set_option maxRecDepth 65536 in
set_option maxHeartbeats 40000000 in
theorem rm_cA2 (l : Launch) (Z : State) (a0 : Array Value) (hw : ∀ d ∈ tables_1, d.before a0 Z = true) (hEL : EW Z a0 []) (n0 : Nat) (s : Addr) (ks : ClassId) (dv : Value)(d0 d1 d2 d3 : Int32) (h : Heap) (As : Arv Z h s ks .char (4 : Int32) [(.int d0), (.int d1), (.int d2), (.int d3)] dv) (hU : Us Z) (hd : ch d2) (g0 : ¬ (255 : Int32) < d0) (g1 : ¬ (255 : Int32) < d1) (gt : (255 : Int32) < d2) :
    Met l true Z [] n0 (⟨"java/lang/StringUTF16", "compress", "([CII)[B"⟩ : MethodName) jdk_52_method_16_code 6 (some (.array .byte)) ({ frames := 3, cells := 2, slots := 12, locals := 48 } : Room) [] #[(.ref s), (.int (0 : Int32)), (.int (4 : Int32))] [] h (fun v h' => ∃ b kb, v = some (.ref b) ∧ Ext h h' ∧ Arv Z h' b kb .byte (8 : Int32) (wb d0 d1 d2 d3) (.int (0 : Int32))) := by
  refine Met.of_body (a0 := a0) (L0 := #[.val (.ref s), .val (.int (0 : Int32)), .val (.int (4 : Int32)), .unset, .unset, .unset]) (plainFor_of_name (by first | (simp [plainName, overriddenIn]; done) | decide +kernel)) (fun m => by first | rfl | (simp [entryFrame, mkF, argsToLocals, Value.category]; done)) hw hEL (by decide) ?_
  have K : Keep h h [] := Keep.refl _ _
  refine iloadN (pc' := 1) d_jdk_52_method_16_0 rfl rfl ?_
  refine newarray (i := 20) (cap := 4) (ty := .byte) (pc' := 3) d_jdk_52_method_16_1 rfl rfl (by decide) (by decide) (by decide) (by decide) (by decide) rfl fun h115 a116 kc120 g117 E118 V119 => ?_
  have sz_a116 : h.size ≤ a116 := by rw [g117]; exact K.1
  have ne_s_a116 : s ≠ a116 := Nat.ne_of_lt (by rw [g117]; exact As.lt)
  replace K := K.ext E118
  replace As := As.ext E118
  replace V119 : Arv Z h115 a116 kc120 .byte (4 : Int32) [(.int (0 : Int32)), (.int (0 : Int32)), (.int (0 : Int32)), (.int (0 : Int32))] (.int (0 : Int32)) := V119.pad (pad_rep [] (.int (0 : Int32)) 4)
  refine astoreN (pc' := 4) (L' := #[.val (.ref s), .val (.int (0 : Int32)), .val (.int (4 : Int32)), .val (.ref a116), .unset, .unset]) d_jdk_52_method_16_3 rfl rfl rfl ?_
  refine aloadN (pc' := 5) d_jdk_52_method_16_4 rfl rfl rfl ?_
  refine iloadN (pc' := 6) d_jdk_52_method_16_5 rfl rfl ?_
  refine aloadN (pc' := 7) d_jdk_52_method_16_6 rfl rfl rfl ?_
  refine iconst (pc' := 8) (v := (0 : Int32)) d_jdk_52_method_16_7 rfl rfl ?_
  refine iloadN (pc' := 9) d_jdk_52_method_16_8 rfl rfl ?_
  refine call (i := 23) (i2 := 18) (Wd := 0) (pc' := 12) (kStatic (i := 21) (i2 := 22) (i3 := 18) (i4 := 23) (argsL := [(.ref s), (.int (0 : Int32)), (.ref a116), (.int (0 : Int32)), (.int (4 : Int32))]) (S' := []) (Wd := 0) d_jdk_52_method_16_9 rfl rfl rfl rfl (by decide) rfl pd_3 rfl rfl (Nat.le_of_ble_eq_true rfl)) (rm_cp2 l Z a0 hw hEL n0 s ks dv d0 d1 d2 d3 a116 kc120 _ As V119 ne_s_a116 g0 g1 gt) rfl rfl (by simp) (by decide) (by decide) (by decide) (by decide) rfl fun v_ h121 P122 sz123 => ?_
  obtain ⟨rfl, Kc⟩ := P122
  replace K := K.trans Kc (allS (Or.inr sz_a116) all0)
  replace As := As.keep Kc (ninS ne_s_a116 nin0)
  refine at' (ce' := 1) (sl' := 4) (pc' := 12) (L' := #[.val (.ref s), .val (.int (0 : Int32)), .val (.int (4 : Int32)), .val (.ref a116), .unset, .unset]) (S' := [(.int (2 : Int32))]) rfl rfl rfl rfl rfl ?_
  refine istore (pc' := 14) (L' := #[.val (.ref s), .val (.int (0 : Int32)), .val (.int (4 : Int32)), .val (.ref a116), .val (.int (2 : Int32)), .unset]) d_jdk_52_method_16_12 rfl rfl ?_
  refine iload (pc' := 16) d_jdk_52_method_16_14 rfl rfl ?_
  refine iloadN (pc' := 17) d_jdk_52_method_16_16 rfl rfl ?_
  refine icmpF (pc' := 20) d_jdk_52_method_16_17 (by decide : ¬ ((2 : Int32) = (4 : Int32))) rfl ?_
  refine aloadN (pc' := 21) d_jdk_52_method_16_20 rfl rfl rfl ?_
  refine iloadN (pc' := 22) d_jdk_52_method_16_21 rfl rfl ?_
  refine iloadN (pc' := 23) d_jdk_52_method_16_22 rfl rfl ?_
  refine call (i := 38) (i2 := 18) (Wd := 0) (pc' := 26) (kStatic (i := 36) (i2 := 37) (i3 := 18) (i4 := 38) (argsL := [(.ref s), (.int (0 : Int32)), (.int (4 : Int32))]) (S' := []) (Wd := 0) d_jdk_52_method_16_23 rfl rfl rfl rfl (by decide) rfl pd_4 rfl rfl (Nat.le_of_ble_eq_true rfl)) (rm_tb l Z a0 hw hEL n0 s ks dv d0 d1 d2 d3 _ As hU) rfl rfl (by simp) (by decide) (by decide) (by decide) (by decide) rfl fun v_ h124 P125 sz126 => ?_
  obtain ⟨r, kr, rfl, Xr, Ar⟩ := P125
  replace K := K.ext Xr
  replace As := As.ext Xr
  refine at' (ce' := 2) (sl' := 12) (pc' := 26) (L' := #[.val (.ref s), .val (.int (0 : Int32)), .val (.int (4 : Int32)), .val (.ref a116), .val (.int (2 : Int32)), .unset]) (S' := [(.ref r)]) rfl rfl rfl rfl rfl ?_
  refine astore (pc' := 28) (L' := #[.val (.ref s), .val (.int (0 : Int32)), .val (.int (4 : Int32)), .val (.ref a116), .val (.int (2 : Int32)), .val (.ref r)]) d_jdk_52_method_16_26 rfl rfl rfl ?_
  refine aload (pc' := 30) d_jdk_52_method_16_28 rfl rfl rfl ?_
  refine iload (pc' := 32) d_jdk_52_method_16_30 rfl rfl ?_
  refine call (i := 54) (i2 := 18) (Wd := 0) (pc' := 35) (kStatic (i := 52) (i2 := 53) (i3 := 18) (i4 := 54) (argsL := [(.ref r), (.int (2 : Int32))]) (S' := []) (Wd := 0) d_jdk_52_method_16_32 rfl rfl rfl rfl (by decide) rfl pd_5 rfl rfl (Nat.le_of_ble_eq_true rfl)) (rm_get2 l Z a0 hw hEL n0 r kr d0 d1 d2 d3 _ Ar hU hd) rfl rfl (by simp) (by decide) (by decide) (by decide) (by decide) rfl fun v_ h127 P128 sz129 => ?_
  obtain ⟨rfl, e130⟩ := P128
  rw [e130]
  refine at' (ce' := 2) (sl' := 12) (pc' := 35) (L' := #[.val (.ref s), .val (.int (0 : Int32)), .val (.int (4 : Int32)), .val (.ref a116), .val (.int (2 : Int32)), .val (.ref r)]) (S' := [(.int d2)]) rfl rfl rfl rfl rfl ?_
  refine sipush (pc' := 38) (v := (255 : Int32)) d_jdk_52_method_16_35 rfl rfl ?_
  refine icmpT (pc' := 54) d_jdk_52_method_16_38 (gt : (255 : Int32) < d2) (by decide) rfl ?_
  refine aload (pc' := 56) d_jdk_52_method_16_54 rfl rfl rfl ?_
  exact retA d_jdk_52_method_16_56 rfl rfl rfl (by decide) (by decide) ⟨r, kr, rfl, keepExt K, Ar⟩
set_option maxRecDepth 65536 in
set_option maxHeartbeats 40000000 in
theorem rm_cp3 (l : Launch) (Z : State) (a0 : Array Value) (hw : ∀ d ∈ tables_1, d.before a0 Z = true) (hEL : EW Z a0 []) (n0 : Nat) (s : Addr) (ks : ClassId) (dv : Value)(d0 d1 d2 d3 : Int32) (b : Addr) (kb : ClassId) (h : Heap) (As : Arv Z h s ks .char (4 : Int32) [(.int d0), (.int d1), (.int d2), (.int d3)] dv) (Ab : Arv Z h b kb .byte (4 : Int32) [(.int (0 : Int32)), (.int (0 : Int32)), (.int (0 : Int32)), (.int (0 : Int32))] (.int (0 : Int32))) (ne_s_b : s ≠ b) (g0 : ¬ (255 : Int32) < d0) (g1 : ¬ (255 : Int32) < d1) (g2 : ¬ (255 : Int32) < d2) (gt : (255 : Int32) < d3) :
    Met l true Z [] n0 (⟨"java/lang/StringUTF16", "compress", "([CI[BII)I"⟩ : MethodName) jdk_52_method_21_code 7 (some .int) ({ frames := 0, cells := 0, slots := 0, locals := 0 } : Room) [] #[(.ref s), (.int (0 : Int32)), (.ref b), (.int (0 : Int32)), (.int (4 : Int32))] [b] h (fun v h' => v = some (.int 3) ∧ Keep h h' [b]) := by
  refine Met.of_body (a0 := a0) (L0 := #[.val (.ref s), .val (.int (0 : Int32)), .val (.ref b), .val (.int (0 : Int32)), .val (.int (4 : Int32)), .unset, .unset]) (plainFor_of_name (by first | (simp [plainName, overriddenIn]; done) | decide +kernel)) (fun m => by first | rfl | (simp [entryFrame, mkF, argsToLocals, Value.category]; done)) hw hEL (by decide) ?_
  have K : Keep h h [b] := Keep.refl _ _
  refine iconst (pc' := 1) (v := (0 : Int32)) d_jdk_52_method_21_0 rfl rfl ?_
  refine istore (pc' := 3) (L' := #[.val (.ref s), .val (.int (0 : Int32)), .val (.ref b), .val (.int (0 : Int32)), .val (.int (4 : Int32)), .val (.int (0 : Int32)), .unset]) d_jdk_52_method_21_1 rfl rfl ?_
  refine iload (pc' := 5) d_jdk_52_method_21_3 rfl rfl ?_
  refine iload (pc' := 7) d_jdk_52_method_21_5 rfl rfl ?_
  refine icmpF (pc' := 10) d_jdk_52_method_21_7 (by decide : (0 : Int32) < (4 : Int32)) rfl ?_
  refine aloadN (pc' := 11) d_jdk_52_method_21_10 rfl rfl rfl ?_
  refine iloadN (pc' := 12) d_jdk_52_method_21_11 rfl rfl ?_
  refine caload (v := .int d0) (pc' := 13) d_jdk_52_method_21_12 As ⟨by decide, by decide⟩ rfl rfl ?_
  refine istore (pc' := 15) (L' := #[.val (.ref s), .val (.int (0 : Int32)), .val (.ref b), .val (.int (0 : Int32)), .val (.int (4 : Int32)), .val (.int (0 : Int32)), .val (.int d0)]) d_jdk_52_method_21_13 rfl rfl ?_
  refine iload (pc' := 17) d_jdk_52_method_21_15 rfl rfl ?_
  refine sipush (pc' := 20) (v := (255 : Int32)) d_jdk_52_method_21_17 rfl rfl ?_
  refine icmpT (pc' := 26) d_jdk_52_method_21_20 (g0 : ¬ ((255 : Int32) < d0)) (by decide) rfl ?_
  refine aloadN (pc' := 27) d_jdk_52_method_21_26 rfl rfl rfl ?_
  refine iloadN (pc' := 28) d_jdk_52_method_21_27 rfl rfl ?_
  refine iload (pc' := 30) d_jdk_52_method_21_28 rfl rfl ?_
  refine i2b (pc' := 31) d_jdk_52_method_21_30 rfl ?_
  refine bastore (pc' := 32) d_jdk_52_method_21_31 Ab ⟨by decide, by decide⟩ (by simp) (Nat.le_of_ble_eq_true rfl) rfl fun h131 W132 V133 => ?_
  replace K := K.wr W132 (Or.inl (by simp))
  replace As := As.other W132 ne_s_b
  replace Ab : Arv Z h131 b kb .byte (4 : Int32) [(.int (nar .byte (d0.toInt8.toInt32))), (.int (0 : Int32)), (.int (0 : Int32)), (.int (0 : Int32))] (.int (0 : Int32)) := V133
  refine iinc (pc' := 35) (v := (1 : Int32)) (L' := #[.val (.ref s), .val (.int (1 : Int32)), .val (.ref b), .val (.int (0 : Int32)), .val (.int (4 : Int32)), .val (.int (0 : Int32)), .val (.int d0)]) d_jdk_52_method_21_32 rfl rfl rfl rfl ?_
  refine iinc (pc' := 38) (v := (1 : Int32)) (L' := #[.val (.ref s), .val (.int (1 : Int32)), .val (.ref b), .val (.int (1 : Int32)), .val (.int (4 : Int32)), .val (.int (0 : Int32)), .val (.int d0)]) d_jdk_52_method_21_35 rfl rfl rfl rfl ?_
  refine iinc (pc' := 41) (v := (1 : Int32)) (L' := #[.val (.ref s), .val (.int (1 : Int32)), .val (.ref b), .val (.int (1 : Int32)), .val (.int (4 : Int32)), .val (.int (1 : Int32)), .val (.int d0)]) d_jdk_52_method_21_38 rfl rfl rfl rfl ?_
  refine goto (pc' := 3) d_jdk_52_method_21_41 (by decide) rfl ?_
  refine iload (pc' := 5) d_jdk_52_method_21_3 rfl rfl ?_
  refine iload (pc' := 7) d_jdk_52_method_21_5 rfl rfl ?_
  refine icmpF (pc' := 10) d_jdk_52_method_21_7 (by decide : (1 : Int32) < (4 : Int32)) rfl ?_
  refine aloadN (pc' := 11) d_jdk_52_method_21_10 rfl rfl rfl ?_
  refine iloadN (pc' := 12) d_jdk_52_method_21_11 rfl rfl ?_
  refine caload (v := .int d1) (pc' := 13) d_jdk_52_method_21_12 As ⟨by decide, by decide⟩ rfl rfl ?_
  refine istore (pc' := 15) (L' := #[.val (.ref s), .val (.int (1 : Int32)), .val (.ref b), .val (.int (1 : Int32)), .val (.int (4 : Int32)), .val (.int (1 : Int32)), .val (.int d1)]) d_jdk_52_method_21_13 rfl rfl ?_
  refine iload (pc' := 17) d_jdk_52_method_21_15 rfl rfl ?_
  refine sipush (pc' := 20) (v := (255 : Int32)) d_jdk_52_method_21_17 rfl rfl ?_
  refine icmpT (pc' := 26) d_jdk_52_method_21_20 (g1 : ¬ ((255 : Int32) < d1)) (by decide) rfl ?_
  refine aloadN (pc' := 27) d_jdk_52_method_21_26 rfl rfl rfl ?_
  refine iloadN (pc' := 28) d_jdk_52_method_21_27 rfl rfl ?_
  refine iload (pc' := 30) d_jdk_52_method_21_28 rfl rfl ?_
  refine i2b (pc' := 31) d_jdk_52_method_21_30 rfl ?_
  refine bastore (pc' := 32) d_jdk_52_method_21_31 Ab ⟨by decide, by decide⟩ (by simp) (Nat.le_of_ble_eq_true rfl) rfl fun h134 W135 V136 => ?_
  replace K := K.wr W135 (Or.inl (by simp))
  replace As := As.other W135 ne_s_b
  replace Ab : Arv Z h134 b kb .byte (4 : Int32) [(.int (nar .byte (d0.toInt8.toInt32))), (.int (nar .byte (d1.toInt8.toInt32))), (.int (0 : Int32)), (.int (0 : Int32))] (.int (0 : Int32)) := V136
  refine iinc (pc' := 35) (v := (2 : Int32)) (L' := #[.val (.ref s), .val (.int (2 : Int32)), .val (.ref b), .val (.int (1 : Int32)), .val (.int (4 : Int32)), .val (.int (1 : Int32)), .val (.int d1)]) d_jdk_52_method_21_32 rfl rfl rfl rfl ?_
  refine iinc (pc' := 38) (v := (2 : Int32)) (L' := #[.val (.ref s), .val (.int (2 : Int32)), .val (.ref b), .val (.int (2 : Int32)), .val (.int (4 : Int32)), .val (.int (1 : Int32)), .val (.int d1)]) d_jdk_52_method_21_35 rfl rfl rfl rfl ?_
  refine iinc (pc' := 41) (v := (2 : Int32)) (L' := #[.val (.ref s), .val (.int (2 : Int32)), .val (.ref b), .val (.int (2 : Int32)), .val (.int (4 : Int32)), .val (.int (2 : Int32)), .val (.int d1)]) d_jdk_52_method_21_38 rfl rfl rfl rfl ?_
  refine goto (pc' := 3) d_jdk_52_method_21_41 (by decide) rfl ?_
  refine iload (pc' := 5) d_jdk_52_method_21_3 rfl rfl ?_
  refine iload (pc' := 7) d_jdk_52_method_21_5 rfl rfl ?_
  refine icmpF (pc' := 10) d_jdk_52_method_21_7 (by decide : (2 : Int32) < (4 : Int32)) rfl ?_
  refine aloadN (pc' := 11) d_jdk_52_method_21_10 rfl rfl rfl ?_
  refine iloadN (pc' := 12) d_jdk_52_method_21_11 rfl rfl ?_
  refine caload (v := .int d2) (pc' := 13) d_jdk_52_method_21_12 As ⟨by decide, by decide⟩ rfl rfl ?_
  refine istore (pc' := 15) (L' := #[.val (.ref s), .val (.int (2 : Int32)), .val (.ref b), .val (.int (2 : Int32)), .val (.int (4 : Int32)), .val (.int (2 : Int32)), .val (.int d2)]) d_jdk_52_method_21_13 rfl rfl ?_
  refine iload (pc' := 17) d_jdk_52_method_21_15 rfl rfl ?_
  refine sipush (pc' := 20) (v := (255 : Int32)) d_jdk_52_method_21_17 rfl rfl ?_
  refine icmpT (pc' := 26) d_jdk_52_method_21_20 (g2 : ¬ ((255 : Int32) < d2)) (by decide) rfl ?_
  refine aloadN (pc' := 27) d_jdk_52_method_21_26 rfl rfl rfl ?_
  refine iloadN (pc' := 28) d_jdk_52_method_21_27 rfl rfl ?_
  refine iload (pc' := 30) d_jdk_52_method_21_28 rfl rfl ?_
  refine i2b (pc' := 31) d_jdk_52_method_21_30 rfl ?_
  refine bastore (pc' := 32) d_jdk_52_method_21_31 Ab ⟨by decide, by decide⟩ (by simp) (Nat.le_of_ble_eq_true rfl) rfl fun h137 W138 V139 => ?_
  replace K := K.wr W138 (Or.inl (by simp))
  replace As := As.other W138 ne_s_b
  replace Ab : Arv Z h137 b kb .byte (4 : Int32) [(.int (nar .byte (d0.toInt8.toInt32))), (.int (nar .byte (d1.toInt8.toInt32))), (.int (nar .byte (d2.toInt8.toInt32))), (.int (0 : Int32))] (.int (0 : Int32)) := V139
  refine iinc (pc' := 35) (v := (3 : Int32)) (L' := #[.val (.ref s), .val (.int (3 : Int32)), .val (.ref b), .val (.int (2 : Int32)), .val (.int (4 : Int32)), .val (.int (2 : Int32)), .val (.int d2)]) d_jdk_52_method_21_32 rfl rfl rfl rfl ?_
  refine iinc (pc' := 38) (v := (3 : Int32)) (L' := #[.val (.ref s), .val (.int (3 : Int32)), .val (.ref b), .val (.int (3 : Int32)), .val (.int (4 : Int32)), .val (.int (2 : Int32)), .val (.int d2)]) d_jdk_52_method_21_35 rfl rfl rfl rfl ?_
  refine iinc (pc' := 41) (v := (3 : Int32)) (L' := #[.val (.ref s), .val (.int (3 : Int32)), .val (.ref b), .val (.int (3 : Int32)), .val (.int (4 : Int32)), .val (.int (3 : Int32)), .val (.int d2)]) d_jdk_52_method_21_38 rfl rfl rfl rfl ?_
  refine goto (pc' := 3) d_jdk_52_method_21_41 (by decide) rfl ?_
  refine iload (pc' := 5) d_jdk_52_method_21_3 rfl rfl ?_
  refine iload (pc' := 7) d_jdk_52_method_21_5 rfl rfl ?_
  refine icmpF (pc' := 10) d_jdk_52_method_21_7 (by decide : (3 : Int32) < (4 : Int32)) rfl ?_
  refine aloadN (pc' := 11) d_jdk_52_method_21_10 rfl rfl rfl ?_
  refine iloadN (pc' := 12) d_jdk_52_method_21_11 rfl rfl ?_
  refine caload (v := .int d3) (pc' := 13) d_jdk_52_method_21_12 As ⟨by decide, by decide⟩ rfl rfl ?_
  refine istore (pc' := 15) (L' := #[.val (.ref s), .val (.int (3 : Int32)), .val (.ref b), .val (.int (3 : Int32)), .val (.int (4 : Int32)), .val (.int (3 : Int32)), .val (.int d3)]) d_jdk_52_method_21_13 rfl rfl ?_
  refine iload (pc' := 17) d_jdk_52_method_21_15 rfl rfl ?_
  refine sipush (pc' := 20) (v := (255 : Int32)) d_jdk_52_method_21_17 rfl rfl ?_
  refine icmpF (pc' := 23) d_jdk_52_method_21_20 (gt : (255 : Int32) < d3) rfl ?_
  refine iload (pc' := 25) d_jdk_52_method_21_23 rfl rfl ?_
  exact retI d_jdk_52_method_21_25 rfl (Or.inl rfl) rfl (by decide) (by decide) ⟨rfl, K⟩
set_option maxRecDepth 65536 in
set_option maxHeartbeats 40000000 in
theorem rm_cA3 (l : Launch) (Z : State) (a0 : Array Value) (hw : ∀ d ∈ tables_1, d.before a0 Z = true) (hEL : EW Z a0 []) (n0 : Nat) (s : Addr) (ks : ClassId) (dv : Value)(d0 d1 d2 d3 : Int32) (h : Heap) (As : Arv Z h s ks .char (4 : Int32) [(.int d0), (.int d1), (.int d2), (.int d3)] dv) (hU : Us Z) (hd : ch d3) (g0 : ¬ (255 : Int32) < d0) (g1 : ¬ (255 : Int32) < d1) (g2 : ¬ (255 : Int32) < d2) (gt : (255 : Int32) < d3) :
    Met l true Z [] n0 (⟨"java/lang/StringUTF16", "compress", "([CII)[B"⟩ : MethodName) jdk_52_method_16_code 6 (some (.array .byte)) ({ frames := 3, cells := 2, slots := 12, locals := 48 } : Room) [] #[(.ref s), (.int (0 : Int32)), (.int (4 : Int32))] [] h (fun v h' => ∃ b kb, v = some (.ref b) ∧ Ext h h' ∧ Arv Z h' b kb .byte (8 : Int32) (wb d0 d1 d2 d3) (.int (0 : Int32))) := by
  refine Met.of_body (a0 := a0) (L0 := #[.val (.ref s), .val (.int (0 : Int32)), .val (.int (4 : Int32)), .unset, .unset, .unset]) (plainFor_of_name (by first | (simp [plainName, overriddenIn]; done) | decide +kernel)) (fun m => by first | rfl | (simp [entryFrame, mkF, argsToLocals, Value.category]; done)) hw hEL (by decide) ?_
  have K : Keep h h [] := Keep.refl _ _
  refine iloadN (pc' := 1) d_jdk_52_method_16_0 rfl rfl ?_
  refine newarray (i := 20) (cap := 4) (ty := .byte) (pc' := 3) d_jdk_52_method_16_1 rfl rfl (by decide) (by decide) (by decide) (by decide) (by decide) rfl fun h140 a141 kc145 g142 E143 V144 => ?_
  have sz_a141 : h.size ≤ a141 := by rw [g142]; exact K.1
  have ne_s_a141 : s ≠ a141 := Nat.ne_of_lt (by rw [g142]; exact As.lt)
  replace K := K.ext E143
  replace As := As.ext E143
  replace V144 : Arv Z h140 a141 kc145 .byte (4 : Int32) [(.int (0 : Int32)), (.int (0 : Int32)), (.int (0 : Int32)), (.int (0 : Int32))] (.int (0 : Int32)) := V144.pad (pad_rep [] (.int (0 : Int32)) 4)
  refine astoreN (pc' := 4) (L' := #[.val (.ref s), .val (.int (0 : Int32)), .val (.int (4 : Int32)), .val (.ref a141), .unset, .unset]) d_jdk_52_method_16_3 rfl rfl rfl ?_
  refine aloadN (pc' := 5) d_jdk_52_method_16_4 rfl rfl rfl ?_
  refine iloadN (pc' := 6) d_jdk_52_method_16_5 rfl rfl ?_
  refine aloadN (pc' := 7) d_jdk_52_method_16_6 rfl rfl rfl ?_
  refine iconst (pc' := 8) (v := (0 : Int32)) d_jdk_52_method_16_7 rfl rfl ?_
  refine iloadN (pc' := 9) d_jdk_52_method_16_8 rfl rfl ?_
  refine call (i := 23) (i2 := 18) (Wd := 0) (pc' := 12) (kStatic (i := 21) (i2 := 22) (i3 := 18) (i4 := 23) (argsL := [(.ref s), (.int (0 : Int32)), (.ref a141), (.int (0 : Int32)), (.int (4 : Int32))]) (S' := []) (Wd := 0) d_jdk_52_method_16_9 rfl rfl rfl rfl (by decide) rfl pd_3 rfl rfl (Nat.le_of_ble_eq_true rfl)) (rm_cp3 l Z a0 hw hEL n0 s ks dv d0 d1 d2 d3 a141 kc145 _ As V144 ne_s_a141 g0 g1 g2 gt) rfl rfl (by simp) (by decide) (by decide) (by decide) (by decide) rfl fun v_ h146 P147 sz148 => ?_
  obtain ⟨rfl, Kc⟩ := P147
  replace K := K.trans Kc (allS (Or.inr sz_a141) all0)
  replace As := As.keep Kc (ninS ne_s_a141 nin0)
  refine at' (ce' := 1) (sl' := 4) (pc' := 12) (L' := #[.val (.ref s), .val (.int (0 : Int32)), .val (.int (4 : Int32)), .val (.ref a141), .unset, .unset]) (S' := [(.int (3 : Int32))]) rfl rfl rfl rfl rfl ?_
  refine istore (pc' := 14) (L' := #[.val (.ref s), .val (.int (0 : Int32)), .val (.int (4 : Int32)), .val (.ref a141), .val (.int (3 : Int32)), .unset]) d_jdk_52_method_16_12 rfl rfl ?_
  refine iload (pc' := 16) d_jdk_52_method_16_14 rfl rfl ?_
  refine iloadN (pc' := 17) d_jdk_52_method_16_16 rfl rfl ?_
  refine icmpF (pc' := 20) d_jdk_52_method_16_17 (by decide : ¬ ((3 : Int32) = (4 : Int32))) rfl ?_
  refine aloadN (pc' := 21) d_jdk_52_method_16_20 rfl rfl rfl ?_
  refine iloadN (pc' := 22) d_jdk_52_method_16_21 rfl rfl ?_
  refine iloadN (pc' := 23) d_jdk_52_method_16_22 rfl rfl ?_
  refine call (i := 38) (i2 := 18) (Wd := 0) (pc' := 26) (kStatic (i := 36) (i2 := 37) (i3 := 18) (i4 := 38) (argsL := [(.ref s), (.int (0 : Int32)), (.int (4 : Int32))]) (S' := []) (Wd := 0) d_jdk_52_method_16_23 rfl rfl rfl rfl (by decide) rfl pd_4 rfl rfl (Nat.le_of_ble_eq_true rfl)) (rm_tb l Z a0 hw hEL n0 s ks dv d0 d1 d2 d3 _ As hU) rfl rfl (by simp) (by decide) (by decide) (by decide) (by decide) rfl fun v_ h149 P150 sz151 => ?_
  obtain ⟨r, kr, rfl, Xr, Ar⟩ := P150
  replace K := K.ext Xr
  replace As := As.ext Xr
  refine at' (ce' := 2) (sl' := 12) (pc' := 26) (L' := #[.val (.ref s), .val (.int (0 : Int32)), .val (.int (4 : Int32)), .val (.ref a141), .val (.int (3 : Int32)), .unset]) (S' := [(.ref r)]) rfl rfl rfl rfl rfl ?_
  refine astore (pc' := 28) (L' := #[.val (.ref s), .val (.int (0 : Int32)), .val (.int (4 : Int32)), .val (.ref a141), .val (.int (3 : Int32)), .val (.ref r)]) d_jdk_52_method_16_26 rfl rfl rfl ?_
  refine aload (pc' := 30) d_jdk_52_method_16_28 rfl rfl rfl ?_
  refine iload (pc' := 32) d_jdk_52_method_16_30 rfl rfl ?_
  refine call (i := 54) (i2 := 18) (Wd := 0) (pc' := 35) (kStatic (i := 52) (i2 := 53) (i3 := 18) (i4 := 54) (argsL := [(.ref r), (.int (3 : Int32))]) (S' := []) (Wd := 0) d_jdk_52_method_16_32 rfl rfl rfl rfl (by decide) rfl pd_5 rfl rfl (Nat.le_of_ble_eq_true rfl)) (rm_get3 l Z a0 hw hEL n0 r kr d0 d1 d2 d3 _ Ar hU hd) rfl rfl (by simp) (by decide) (by decide) (by decide) (by decide) rfl fun v_ h152 P153 sz154 => ?_
  obtain ⟨rfl, e155⟩ := P153
  rw [e155]
  refine at' (ce' := 2) (sl' := 12) (pc' := 35) (L' := #[.val (.ref s), .val (.int (0 : Int32)), .val (.int (4 : Int32)), .val (.ref a141), .val (.int (3 : Int32)), .val (.ref r)]) (S' := [(.int d3)]) rfl rfl rfl rfl rfl ?_
  refine sipush (pc' := 38) (v := (255 : Int32)) d_jdk_52_method_16_35 rfl rfl ?_
  refine icmpT (pc' := 54) d_jdk_52_method_16_38 (gt : (255 : Int32) < d3) (by decide) rfl ?_
  refine aload (pc' := 56) d_jdk_52_method_16_54 rfl rfl rfl ?_
  exact retA d_jdk_52_method_16_56 rfl rfl rfl (by decide) (by decide) ⟨r, kr, rfl, keepExt K, Ar⟩
set_option maxRecDepth 65536 in
set_option maxHeartbeats 40000000 in
theorem rm_cfa (l : Launch) (Z : State) (a0 : Array Value) (hw : ∀ d ∈ tables_1, d.before a0 Z = true) (hEL : EW Z a0 []) (n0 : Nat) (b : Addr) (kb : ClassId) (vs : List Value) (dv : Value) (h : Heap) (Ab : Arv Z h b kb .byte (8 : Int32) vs dv)  :
    Met l true Z [] n0 (⟨"java/lang/StringUTF16", "coderFromArrayLen", "([BI)B"⟩ : MethodName) jdk_52_method_15_code 2 (some .byte) ({ frames := 0, cells := 0, slots := 0, locals := 0 } : Room) [] #[(.ref b), (.int (4 : Int32))] [] h (fun v h' => v = some (.int 1) ∧ h' = h) := by
  refine Met.of_body (a0 := a0) (L0 := #[.val (.ref b), .val (.int (4 : Int32))]) (plainFor_of_name (by first | (simp [plainName, overriddenIn]; done) | decide +kernel)) (fun m => by first | rfl | (simp [entryFrame, mkF, argsToLocals, Value.category]; done)) hw hEL (by decide) ?_
  refine iloadN (pc' := 1) d_jdk_52_method_15_0 rfl rfl ?_
  refine aloadN (pc' := 2) d_jdk_52_method_15_1 rfl rfl rfl ?_
  refine arraylength (pc' := 3) d_jdk_52_method_15_2 Ab rfl ?_
  refine isub (pc' := 4) d_jdk_52_method_15_3 rfl ?_
  refine bipush (pc' := 6) (v := (31 : Int32)) d_jdk_52_method_15_4 rfl rfl ?_
  refine iushr (pc' := 7) d_jdk_52_method_15_6 rfl ?_
  refine i2b (pc' := 8) d_jdk_52_method_15_7 rfl ?_
  rw [show (((((4 : Int32) - (8 : Int32)).toUInt32 >>> ((31 : Int32) &&& 31).toUInt32).toInt32).toInt8.toInt32) = (1 : Int32) by decide]
  exact retI d_jdk_52_method_15_8 rfl (Or.inr (Or.inr (Or.inl rfl))) rfl (by decide) (by decide) ⟨rfl, rfl⟩
set_option maxRecDepth 65536 in
set_option maxHeartbeats 40000000 in
theorem rm_iv0 (l : Launch) (Z : State) (a0 : Array Value) (hw : ∀ d ∈ tables_1, d.before a0 Z = true) (hEL : EW Z a0 []) (n0 : Nat) (x : Addr) (s : Addr) (ks : ClassId) (dv : Value)(d0 d1 d2 d3 : Int32) (h : Heap) (Ex : Exa Z h x "java/lang/String") (Fv : Fld Z h x "java/lang/String" "value" "[B" .null) (Fc : Fld Z h x "java/lang/String" "coder" "B" (.int (0 : Int32))) (As : Arv Z h s ks .char (4 : Int32) [(.int d0), (.int d1), (.int d2), (.int d3)] dv) (hB : Sets Z) (hU : Us Z) (hd : ch d0)  (gt : (255 : Int32) < d0) :
    Met l true Z [] n0 (⟨"java/lang/String", "<init>", "([CIILjava/lang/Void;)V"⟩ : MethodName) jdk_42_method_149_code 6 none ({ frames := 4, cells := 2, slots := 12, locals := 66 } : Room) [] #[(.ref x), (.ref s), (.int (0 : Int32)), (.int (4 : Int32)), .null] [x] h (fun v h' => v = none ∧ Keep h h' [x] ∧ Wide Z h' x d0 d1 d2 d3) := by
  refine Met.of_body (a0 := a0) (L0 := #[.val (.ref x), .val (.ref s), .val (.int (0 : Int32)), .val (.int (4 : Int32)), .val .null, .unset]) (plainFor_of_name (by first | (simp [plainName, overriddenIn]; done) | decide +kernel)) (fun m => by first | rfl | (simp [entryFrame, mkF, argsToLocals, Value.category]; done)) hw hEL (by decide) ?_
  have K : Keep h h [x] := Keep.refl _ _
  obtain ⟨zc, fm, Cs, hz, -, -⟩ := hB
  have ne_x_s : x ≠ s := Ex.neArv As (hw _ (List.mem_of_getElem? (i := 3) rfl))
  refine aloadN (pc' := 1) d_jdk_42_method_149_0 rfl rfl rfl ?_
  refine initObj (i := 12) (i2 := 13) (i3 := 14) (Wd := 0) (pc' := 4) d_jdk_42_method_149_1 rfl rfl rfl rfl (by decide) (Nat.le_of_ble_eq_true rfl) (by decide) rfl ?_
  refine iloadN (pc' := 5) d_jdk_42_method_149_4 rfl rfl ?_
  refine ifT (pc' := 27) d_jdk_42_method_149_5 (by decide : ¬ ((4 : Int32) = (0 : Int32))) (by decide) rfl ?_
  refine old fun O156 _ => ?_
  refine getstatic (i := 15) (v := (.int zc)) (pc' := 30) d_jdk_42_method_149_27 rfl (Cs.ext O156.2) rfl ?_
  refine ifF (pc' := 33) d_jdk_42_method_149_30 (hz : ¬ (zc = (0 : Int32))) rfl ?_
  refine aloadN (pc' := 34) d_jdk_42_method_149_33 rfl rfl rfl ?_
  refine iloadN (pc' := 35) d_jdk_42_method_149_34 rfl rfl ?_
  refine iloadN (pc' := 36) d_jdk_42_method_149_35 rfl rfl ?_
  refine call (i := 19) (i2 := 18) (Wd := 0) (pc' := 39) (kStatic (i := 16) (i2 := 17) (i3 := 18) (i4 := 19) (argsL := [(.ref s), (.int (0 : Int32)), (.int (4 : Int32))]) (S' := []) (Wd := 0) d_jdk_42_method_149_36 rfl rfl rfl rfl (by decide) rfl pd_4 rfl rfl (Nat.le_of_ble_eq_true rfl)) (rm_cA0 l Z a0 hw hEL n0 s ks dv d0 d1 d2 d3 _ As hU hd  gt) rfl rfl (by simp) (by decide) (by decide) (by decide) (by decide) rfl fun v_ h157 P158 sz159 => ?_
  obtain ⟨b, kb, rfl, Xb, Ab⟩ := P158
  replace K := K.ext Xb
  replace Ex := Ex.ext Xb
  replace Fv := Fv.ext Xb
  replace Fc := Fc.ext Xb
  replace As := As.ext Xb
  have ne_x_b : x ≠ b := Ex.neArv Ab (hw _ (List.mem_of_getElem? (i := 3) rfl))
  refine at' (ce' := 2) (sl' := 12) (pc' := 39) (L' := #[.val (.ref x), .val (.ref s), .val (.int (0 : Int32)), .val (.int (4 : Int32)), .val .null, .unset]) (S' := [(.ref b)]) rfl rfl rfl rfl rfl ?_
  refine astore (pc' := 41) (L' := #[.val (.ref x), .val (.ref s), .val (.int (0 : Int32)), .val (.int (4 : Int32)), .val .null, .val (.ref b)]) d_jdk_42_method_149_39 rfl rfl rfl ?_
  refine aloadN (pc' := 42) d_jdk_42_method_149_41 rfl rfl rfl ?_
  refine aload (pc' := 44) d_jdk_42_method_149_42 rfl rfl rfl ?_
  refine iloadN (pc' := 45) d_jdk_42_method_149_44 rfl rfl ?_
  refine call (i := 26) (i2 := 18) (Wd := 1) (pc' := 48) (kStatic (i := 24) (i2 := 25) (i3 := 18) (i4 := 26) (argsL := [(.ref b), (.int (4 : Int32))]) (S' := [(.ref x)]) (Wd := 1) d_jdk_42_method_149_45 rfl rfl rfl rfl (by decide) rfl pd_6 rfl rfl (Nat.le_of_ble_eq_true rfl)) (rm_cfa l Z a0 hw hEL n0 b kb _ _ _ Ab) rfl rfl (by simp) (by decide) (by decide) (by decide) (by decide) rfl fun v_ h160 P161 sz162 => ?_
  obtain ⟨rfl, e163⟩ := P161
  rw [e163]
  refine at' (ce' := 2) (sl' := 12) (pc' := 48) (L' := #[.val (.ref x), .val (.ref s), .val (.int (0 : Int32)), .val (.int (4 : Int32)), .val .null, .val (.ref b)]) (S' := [(.int (1 : Int32)), (.ref x)]) rfl rfl rfl rfl rfl ?_
  refine putfield (i := 27) (i2 := 28) (i3 := 3) (pc' := 51) (v' := (.int (1 : Int32))) (ty := .byte) d_jdk_42_method_149_48 rfl (Or.inr ⟨rfl, rfl, rfl⟩) rfl Fc Ex (by decide) (by decide) (by decide) (by simp) rfl fun h164 W165 => ?_
  replace K := K.wr W165 (Or.inl (by simp))
  replace Ex := Ex.wr W165
  replace Fv := Fv.other W165 (Or.inr (slot_ne (Or.inr (hw _ (List.mem_of_getElem? (i := 30) rfl))) (Or.inr (hw _ (List.mem_of_getElem? (i := 28) rfl))) (by decide) (t := (.array .byte)) (t' := .byte) (by decide) (by decide)))
  replace Fc := Fc.same W165
  replace As := As.other W165 (Ne.symm ne_x_s)
  replace Ab := Ab.other W165 (Ne.symm ne_x_b)
  refine aloadN (pc' := 52) d_jdk_42_method_149_51 rfl rfl rfl ?_
  refine aload (pc' := 54) d_jdk_42_method_149_52 rfl rfl rfl ?_
  refine putfield (i := 29) (i2 := 30) (i3 := 3) (pc' := 57) (v' := (.ref b)) (ty := (.array .byte)) d_jdk_42_method_149_54 rfl (Or.inr ⟨rfl, rfl, rfl⟩) rfl Fv Ex (by decide) rfl rfl (by simp) rfl fun h166 W167 => ?_
  replace K := K.wr W167 (Or.inl (by simp))
  replace Ex := Ex.wr W167
  replace Fv := Fv.same W167
  replace Fc := Fc.other W167 (Or.inr (slot_ne (Or.inr (hw _ (List.mem_of_getElem? (i := 28) rfl))) (Or.inr (hw _ (List.mem_of_getElem? (i := 30) rfl))) (by decide) (t := .byte) (t' := (.array .byte)) (by decide) (by decide)))
  replace As := As.other W167 (Ne.symm ne_x_s)
  replace Ab := Ab.other W167 (Ne.symm ne_x_b)
  exact retV d_jdk_42_method_149_57 rfl (by decide) (by decide) ⟨rfl, K, Ex, Fc, b, kb, Fv, Ab⟩
set_option maxRecDepth 65536 in
set_option maxHeartbeats 40000000 in
theorem rm_i0 (l : Launch) (Z : State) (a0 : Array Value) (hw : ∀ d ∈ tables_1, d.before a0 Z = true) (hEL : EW Z a0 []) (n0 : Nat) (x : Addr) (s : Addr) (ks : ClassId) (dv : Value)(d0 d1 d2 d3 : Int32) (h : Heap) (Ex : Exa Z h x "java/lang/String") (Fv : Fld Z h x "java/lang/String" "value" "[B" .null) (Fc : Fld Z h x "java/lang/String" "coder" "B" (.int (0 : Int32))) (As : Arv Z h s ks .char (4 : Int32) [(.int d0), (.int d1), (.int d2), (.int d3)] dv) (hB : Sets Z) (hU : Us Z) (hd : ch d0)  (gt : (255 : Int32) < d0) :
    Met l true Z [] n0 (⟨"java/lang/String", "<init>", "([C)V"⟩ : MethodName) jdk_42_method_3_code 2 none ({ frames := 5, cells := 2, slots := 12, locals := 84 } : Room) [] #[(.ref x), (.ref s)] [x] h (fun v h' => v = none ∧ Keep h h' [x] ∧ Wide Z h' x d0 d1 d2 d3) := by
  refine Met.of_body (a0 := a0) (L0 := #[.val (.ref x), .val (.ref s)]) (plainFor_of_name (by first | (simp [plainName, overriddenIn]; done) | decide +kernel)) (fun m => by first | rfl | (simp [entryFrame, mkF, argsToLocals, Value.category]; done)) hw hEL (by decide) ?_
  refine aloadN (pc' := 1) d_jdk_42_method_3_0 rfl rfl rfl ?_
  refine aloadN (pc' := 2) d_jdk_42_method_3_1 rfl rfl rfl ?_
  refine iconst (pc' := 3) (v := (0 : Int32)) d_jdk_42_method_3_2 rfl rfl ?_
  refine aloadN (pc' := 4) d_jdk_42_method_3_3 rfl rfl rfl ?_
  refine arraylength (pc' := 5) d_jdk_42_method_3_4 As rfl ?_
  refine aconst_null (pc' := 6) d_jdk_42_method_3_5 rfl ?_
  refine call (i := 11) (i2 := 4) (Wd := 0) (pc' := 9) (kInit (i := 8) (i2 := 9) (i4 := 11) (a := x) (argsL := [(.ref s), (.int (0 : Int32)), (.int (4 : Int32)), .null]) (S' := []) (Wd := 0) d_jdk_42_method_3_6 rfl rfl rfl rfl (by decide) rfl pd_7 rfl rfl (Nat.le_of_ble_eq_true rfl)) (rm_iv0 l Z a0 hw hEL n0 x s ks dv d0 d1 d2 d3 _ Ex Fv Fc As hB hU hd  gt) rfl rfl (by simp) (by decide) (by decide) (by decide) (by decide) rfl fun v_ h168 P169 sz170 => ?_
  obtain ⟨rfl, K1, W1⟩ := P169
  refine at' (ce' := 2) (sl' := 12) (pc' := 9) (L' := #[.val (.ref x), .val (.ref s)]) (S' := []) rfl rfl rfl rfl rfl ?_
  exact retV d_jdk_42_method_3_9 rfl (by decide) (by decide) ⟨rfl, K1, W1⟩
set_option maxRecDepth 65536 in
set_option maxHeartbeats 40000000 in
theorem rm_iv1 (l : Launch) (Z : State) (a0 : Array Value) (hw : ∀ d ∈ tables_1, d.before a0 Z = true) (hEL : EW Z a0 []) (n0 : Nat) (x : Addr) (s : Addr) (ks : ClassId) (dv : Value)(d0 d1 d2 d3 : Int32) (h : Heap) (Ex : Exa Z h x "java/lang/String") (Fv : Fld Z h x "java/lang/String" "value" "[B" .null) (Fc : Fld Z h x "java/lang/String" "coder" "B" (.int (0 : Int32))) (As : Arv Z h s ks .char (4 : Int32) [(.int d0), (.int d1), (.int d2), (.int d3)] dv) (hB : Sets Z) (hU : Us Z) (hd : ch d1) (g0 : ¬ (255 : Int32) < d0) (gt : (255 : Int32) < d1) :
    Met l true Z [] n0 (⟨"java/lang/String", "<init>", "([CIILjava/lang/Void;)V"⟩ : MethodName) jdk_42_method_149_code 6 none ({ frames := 4, cells := 2, slots := 12, locals := 66 } : Room) [] #[(.ref x), (.ref s), (.int (0 : Int32)), (.int (4 : Int32)), .null] [x] h (fun v h' => v = none ∧ Keep h h' [x] ∧ Wide Z h' x d0 d1 d2 d3) := by
  refine Met.of_body (a0 := a0) (L0 := #[.val (.ref x), .val (.ref s), .val (.int (0 : Int32)), .val (.int (4 : Int32)), .val .null, .unset]) (plainFor_of_name (by first | (simp [plainName, overriddenIn]; done) | decide +kernel)) (fun m => by first | rfl | (simp [entryFrame, mkF, argsToLocals, Value.category]; done)) hw hEL (by decide) ?_
  have K : Keep h h [x] := Keep.refl _ _
  obtain ⟨zc, fm, Cs, hz, -, -⟩ := hB
  have ne_x_s : x ≠ s := Ex.neArv As (hw _ (List.mem_of_getElem? (i := 3) rfl))
  refine aloadN (pc' := 1) d_jdk_42_method_149_0 rfl rfl rfl ?_
  refine initObj (i := 12) (i2 := 13) (i3 := 14) (Wd := 0) (pc' := 4) d_jdk_42_method_149_1 rfl rfl rfl rfl (by decide) (Nat.le_of_ble_eq_true rfl) (by decide) rfl ?_
  refine iloadN (pc' := 5) d_jdk_42_method_149_4 rfl rfl ?_
  refine ifT (pc' := 27) d_jdk_42_method_149_5 (by decide : ¬ ((4 : Int32) = (0 : Int32))) (by decide) rfl ?_
  refine old fun O171 _ => ?_
  refine getstatic (i := 15) (v := (.int zc)) (pc' := 30) d_jdk_42_method_149_27 rfl (Cs.ext O171.2) rfl ?_
  refine ifF (pc' := 33) d_jdk_42_method_149_30 (hz : ¬ (zc = (0 : Int32))) rfl ?_
  refine aloadN (pc' := 34) d_jdk_42_method_149_33 rfl rfl rfl ?_
  refine iloadN (pc' := 35) d_jdk_42_method_149_34 rfl rfl ?_
  refine iloadN (pc' := 36) d_jdk_42_method_149_35 rfl rfl ?_
  refine call (i := 19) (i2 := 18) (Wd := 0) (pc' := 39) (kStatic (i := 16) (i2 := 17) (i3 := 18) (i4 := 19) (argsL := [(.ref s), (.int (0 : Int32)), (.int (4 : Int32))]) (S' := []) (Wd := 0) d_jdk_42_method_149_36 rfl rfl rfl rfl (by decide) rfl pd_4 rfl rfl (Nat.le_of_ble_eq_true rfl)) (rm_cA1 l Z a0 hw hEL n0 s ks dv d0 d1 d2 d3 _ As hU hd g0 gt) rfl rfl (by simp) (by decide) (by decide) (by decide) (by decide) rfl fun v_ h172 P173 sz174 => ?_
  obtain ⟨b, kb, rfl, Xb, Ab⟩ := P173
  replace K := K.ext Xb
  replace Ex := Ex.ext Xb
  replace Fv := Fv.ext Xb
  replace Fc := Fc.ext Xb
  replace As := As.ext Xb
  have ne_x_b : x ≠ b := Ex.neArv Ab (hw _ (List.mem_of_getElem? (i := 3) rfl))
  refine at' (ce' := 2) (sl' := 12) (pc' := 39) (L' := #[.val (.ref x), .val (.ref s), .val (.int (0 : Int32)), .val (.int (4 : Int32)), .val .null, .unset]) (S' := [(.ref b)]) rfl rfl rfl rfl rfl ?_
  refine astore (pc' := 41) (L' := #[.val (.ref x), .val (.ref s), .val (.int (0 : Int32)), .val (.int (4 : Int32)), .val .null, .val (.ref b)]) d_jdk_42_method_149_39 rfl rfl rfl ?_
  refine aloadN (pc' := 42) d_jdk_42_method_149_41 rfl rfl rfl ?_
  refine aload (pc' := 44) d_jdk_42_method_149_42 rfl rfl rfl ?_
  refine iloadN (pc' := 45) d_jdk_42_method_149_44 rfl rfl ?_
  refine call (i := 26) (i2 := 18) (Wd := 1) (pc' := 48) (kStatic (i := 24) (i2 := 25) (i3 := 18) (i4 := 26) (argsL := [(.ref b), (.int (4 : Int32))]) (S' := [(.ref x)]) (Wd := 1) d_jdk_42_method_149_45 rfl rfl rfl rfl (by decide) rfl pd_6 rfl rfl (Nat.le_of_ble_eq_true rfl)) (rm_cfa l Z a0 hw hEL n0 b kb _ _ _ Ab) rfl rfl (by simp) (by decide) (by decide) (by decide) (by decide) rfl fun v_ h175 P176 sz177 => ?_
  obtain ⟨rfl, e178⟩ := P176
  rw [e178]
  refine at' (ce' := 2) (sl' := 12) (pc' := 48) (L' := #[.val (.ref x), .val (.ref s), .val (.int (0 : Int32)), .val (.int (4 : Int32)), .val .null, .val (.ref b)]) (S' := [(.int (1 : Int32)), (.ref x)]) rfl rfl rfl rfl rfl ?_
  refine putfield (i := 27) (i2 := 28) (i3 := 3) (pc' := 51) (v' := (.int (1 : Int32))) (ty := .byte) d_jdk_42_method_149_48 rfl (Or.inr ⟨rfl, rfl, rfl⟩) rfl Fc Ex (by decide) (by decide) (by decide) (by simp) rfl fun h179 W180 => ?_
  replace K := K.wr W180 (Or.inl (by simp))
  replace Ex := Ex.wr W180
  replace Fv := Fv.other W180 (Or.inr (slot_ne (Or.inr (hw _ (List.mem_of_getElem? (i := 30) rfl))) (Or.inr (hw _ (List.mem_of_getElem? (i := 28) rfl))) (by decide) (t := (.array .byte)) (t' := .byte) (by decide) (by decide)))
  replace Fc := Fc.same W180
  replace As := As.other W180 (Ne.symm ne_x_s)
  replace Ab := Ab.other W180 (Ne.symm ne_x_b)
  refine aloadN (pc' := 52) d_jdk_42_method_149_51 rfl rfl rfl ?_
  refine aload (pc' := 54) d_jdk_42_method_149_52 rfl rfl rfl ?_
  refine putfield (i := 29) (i2 := 30) (i3 := 3) (pc' := 57) (v' := (.ref b)) (ty := (.array .byte)) d_jdk_42_method_149_54 rfl (Or.inr ⟨rfl, rfl, rfl⟩) rfl Fv Ex (by decide) rfl rfl (by simp) rfl fun h181 W182 => ?_
  replace K := K.wr W182 (Or.inl (by simp))
  replace Ex := Ex.wr W182
  replace Fv := Fv.same W182
  replace Fc := Fc.other W182 (Or.inr (slot_ne (Or.inr (hw _ (List.mem_of_getElem? (i := 28) rfl))) (Or.inr (hw _ (List.mem_of_getElem? (i := 30) rfl))) (by decide) (t := .byte) (t' := (.array .byte)) (by decide) (by decide)))
  replace As := As.other W182 (Ne.symm ne_x_s)
  replace Ab := Ab.other W182 (Ne.symm ne_x_b)
  exact retV d_jdk_42_method_149_57 rfl (by decide) (by decide) ⟨rfl, K, Ex, Fc, b, kb, Fv, Ab⟩
set_option maxRecDepth 65536 in
set_option maxHeartbeats 40000000 in
theorem rm_i1 (l : Launch) (Z : State) (a0 : Array Value) (hw : ∀ d ∈ tables_1, d.before a0 Z = true) (hEL : EW Z a0 []) (n0 : Nat) (x : Addr) (s : Addr) (ks : ClassId) (dv : Value)(d0 d1 d2 d3 : Int32) (h : Heap) (Ex : Exa Z h x "java/lang/String") (Fv : Fld Z h x "java/lang/String" "value" "[B" .null) (Fc : Fld Z h x "java/lang/String" "coder" "B" (.int (0 : Int32))) (As : Arv Z h s ks .char (4 : Int32) [(.int d0), (.int d1), (.int d2), (.int d3)] dv) (hB : Sets Z) (hU : Us Z) (hd : ch d1) (g0 : ¬ (255 : Int32) < d0) (gt : (255 : Int32) < d1) :
    Met l true Z [] n0 (⟨"java/lang/String", "<init>", "([C)V"⟩ : MethodName) jdk_42_method_3_code 2 none ({ frames := 5, cells := 2, slots := 12, locals := 84 } : Room) [] #[(.ref x), (.ref s)] [x] h (fun v h' => v = none ∧ Keep h h' [x] ∧ Wide Z h' x d0 d1 d2 d3) := by
  refine Met.of_body (a0 := a0) (L0 := #[.val (.ref x), .val (.ref s)]) (plainFor_of_name (by first | (simp [plainName, overriddenIn]; done) | decide +kernel)) (fun m => by first | rfl | (simp [entryFrame, mkF, argsToLocals, Value.category]; done)) hw hEL (by decide) ?_
  refine aloadN (pc' := 1) d_jdk_42_method_3_0 rfl rfl rfl ?_
  refine aloadN (pc' := 2) d_jdk_42_method_3_1 rfl rfl rfl ?_
  refine iconst (pc' := 3) (v := (0 : Int32)) d_jdk_42_method_3_2 rfl rfl ?_
  refine aloadN (pc' := 4) d_jdk_42_method_3_3 rfl rfl rfl ?_
  refine arraylength (pc' := 5) d_jdk_42_method_3_4 As rfl ?_
  refine aconst_null (pc' := 6) d_jdk_42_method_3_5 rfl ?_
  refine call (i := 11) (i2 := 4) (Wd := 0) (pc' := 9) (kInit (i := 8) (i2 := 9) (i4 := 11) (a := x) (argsL := [(.ref s), (.int (0 : Int32)), (.int (4 : Int32)), .null]) (S' := []) (Wd := 0) d_jdk_42_method_3_6 rfl rfl rfl rfl (by decide) rfl pd_7 rfl rfl (Nat.le_of_ble_eq_true rfl)) (rm_iv1 l Z a0 hw hEL n0 x s ks dv d0 d1 d2 d3 _ Ex Fv Fc As hB hU hd g0 gt) rfl rfl (by simp) (by decide) (by decide) (by decide) (by decide) rfl fun v_ h183 P184 sz185 => ?_
  obtain ⟨rfl, K1, W1⟩ := P184
  refine at' (ce' := 2) (sl' := 12) (pc' := 9) (L' := #[.val (.ref x), .val (.ref s)]) (S' := []) rfl rfl rfl rfl rfl ?_
  exact retV d_jdk_42_method_3_9 rfl (by decide) (by decide) ⟨rfl, K1, W1⟩
set_option maxRecDepth 65536 in
set_option maxHeartbeats 40000000 in
theorem rm_iv2 (l : Launch) (Z : State) (a0 : Array Value) (hw : ∀ d ∈ tables_1, d.before a0 Z = true) (hEL : EW Z a0 []) (n0 : Nat) (x : Addr) (s : Addr) (ks : ClassId) (dv : Value)(d0 d1 d2 d3 : Int32) (h : Heap) (Ex : Exa Z h x "java/lang/String") (Fv : Fld Z h x "java/lang/String" "value" "[B" .null) (Fc : Fld Z h x "java/lang/String" "coder" "B" (.int (0 : Int32))) (As : Arv Z h s ks .char (4 : Int32) [(.int d0), (.int d1), (.int d2), (.int d3)] dv) (hB : Sets Z) (hU : Us Z) (hd : ch d2) (g0 : ¬ (255 : Int32) < d0) (g1 : ¬ (255 : Int32) < d1) (gt : (255 : Int32) < d2) :
    Met l true Z [] n0 (⟨"java/lang/String", "<init>", "([CIILjava/lang/Void;)V"⟩ : MethodName) jdk_42_method_149_code 6 none ({ frames := 4, cells := 2, slots := 12, locals := 66 } : Room) [] #[(.ref x), (.ref s), (.int (0 : Int32)), (.int (4 : Int32)), .null] [x] h (fun v h' => v = none ∧ Keep h h' [x] ∧ Wide Z h' x d0 d1 d2 d3) := by
  refine Met.of_body (a0 := a0) (L0 := #[.val (.ref x), .val (.ref s), .val (.int (0 : Int32)), .val (.int (4 : Int32)), .val .null, .unset]) (plainFor_of_name (by first | (simp [plainName, overriddenIn]; done) | decide +kernel)) (fun m => by first | rfl | (simp [entryFrame, mkF, argsToLocals, Value.category]; done)) hw hEL (by decide) ?_
  have K : Keep h h [x] := Keep.refl _ _
  obtain ⟨zc, fm, Cs, hz, -, -⟩ := hB
  have ne_x_s : x ≠ s := Ex.neArv As (hw _ (List.mem_of_getElem? (i := 3) rfl))
  refine aloadN (pc' := 1) d_jdk_42_method_149_0 rfl rfl rfl ?_
  refine initObj (i := 12) (i2 := 13) (i3 := 14) (Wd := 0) (pc' := 4) d_jdk_42_method_149_1 rfl rfl rfl rfl (by decide) (Nat.le_of_ble_eq_true rfl) (by decide) rfl ?_
  refine iloadN (pc' := 5) d_jdk_42_method_149_4 rfl rfl ?_
  refine ifT (pc' := 27) d_jdk_42_method_149_5 (by decide : ¬ ((4 : Int32) = (0 : Int32))) (by decide) rfl ?_
  refine old fun O186 _ => ?_
  refine getstatic (i := 15) (v := (.int zc)) (pc' := 30) d_jdk_42_method_149_27 rfl (Cs.ext O186.2) rfl ?_
  refine ifF (pc' := 33) d_jdk_42_method_149_30 (hz : ¬ (zc = (0 : Int32))) rfl ?_
  refine aloadN (pc' := 34) d_jdk_42_method_149_33 rfl rfl rfl ?_
  refine iloadN (pc' := 35) d_jdk_42_method_149_34 rfl rfl ?_
  refine iloadN (pc' := 36) d_jdk_42_method_149_35 rfl rfl ?_
  refine call (i := 19) (i2 := 18) (Wd := 0) (pc' := 39) (kStatic (i := 16) (i2 := 17) (i3 := 18) (i4 := 19) (argsL := [(.ref s), (.int (0 : Int32)), (.int (4 : Int32))]) (S' := []) (Wd := 0) d_jdk_42_method_149_36 rfl rfl rfl rfl (by decide) rfl pd_4 rfl rfl (Nat.le_of_ble_eq_true rfl)) (rm_cA2 l Z a0 hw hEL n0 s ks dv d0 d1 d2 d3 _ As hU hd g0 g1 gt) rfl rfl (by simp) (by decide) (by decide) (by decide) (by decide) rfl fun v_ h187 P188 sz189 => ?_
  obtain ⟨b, kb, rfl, Xb, Ab⟩ := P188
  replace K := K.ext Xb
  replace Ex := Ex.ext Xb
  replace Fv := Fv.ext Xb
  replace Fc := Fc.ext Xb
  replace As := As.ext Xb
  have ne_x_b : x ≠ b := Ex.neArv Ab (hw _ (List.mem_of_getElem? (i := 3) rfl))
  refine at' (ce' := 2) (sl' := 12) (pc' := 39) (L' := #[.val (.ref x), .val (.ref s), .val (.int (0 : Int32)), .val (.int (4 : Int32)), .val .null, .unset]) (S' := [(.ref b)]) rfl rfl rfl rfl rfl ?_
  refine astore (pc' := 41) (L' := #[.val (.ref x), .val (.ref s), .val (.int (0 : Int32)), .val (.int (4 : Int32)), .val .null, .val (.ref b)]) d_jdk_42_method_149_39 rfl rfl rfl ?_
  refine aloadN (pc' := 42) d_jdk_42_method_149_41 rfl rfl rfl ?_
  refine aload (pc' := 44) d_jdk_42_method_149_42 rfl rfl rfl ?_
  refine iloadN (pc' := 45) d_jdk_42_method_149_44 rfl rfl ?_
  refine call (i := 26) (i2 := 18) (Wd := 1) (pc' := 48) (kStatic (i := 24) (i2 := 25) (i3 := 18) (i4 := 26) (argsL := [(.ref b), (.int (4 : Int32))]) (S' := [(.ref x)]) (Wd := 1) d_jdk_42_method_149_45 rfl rfl rfl rfl (by decide) rfl pd_6 rfl rfl (Nat.le_of_ble_eq_true rfl)) (rm_cfa l Z a0 hw hEL n0 b kb _ _ _ Ab) rfl rfl (by simp) (by decide) (by decide) (by decide) (by decide) rfl fun v_ h190 P191 sz192 => ?_
  obtain ⟨rfl, e193⟩ := P191
  rw [e193]
  refine at' (ce' := 2) (sl' := 12) (pc' := 48) (L' := #[.val (.ref x), .val (.ref s), .val (.int (0 : Int32)), .val (.int (4 : Int32)), .val .null, .val (.ref b)]) (S' := [(.int (1 : Int32)), (.ref x)]) rfl rfl rfl rfl rfl ?_
  refine putfield (i := 27) (i2 := 28) (i3 := 3) (pc' := 51) (v' := (.int (1 : Int32))) (ty := .byte) d_jdk_42_method_149_48 rfl (Or.inr ⟨rfl, rfl, rfl⟩) rfl Fc Ex (by decide) (by decide) (by decide) (by simp) rfl fun h194 W195 => ?_
  replace K := K.wr W195 (Or.inl (by simp))
  replace Ex := Ex.wr W195
  replace Fv := Fv.other W195 (Or.inr (slot_ne (Or.inr (hw _ (List.mem_of_getElem? (i := 30) rfl))) (Or.inr (hw _ (List.mem_of_getElem? (i := 28) rfl))) (by decide) (t := (.array .byte)) (t' := .byte) (by decide) (by decide)))
  replace Fc := Fc.same W195
  replace As := As.other W195 (Ne.symm ne_x_s)
  replace Ab := Ab.other W195 (Ne.symm ne_x_b)
  refine aloadN (pc' := 52) d_jdk_42_method_149_51 rfl rfl rfl ?_
  refine aload (pc' := 54) d_jdk_42_method_149_52 rfl rfl rfl ?_
  refine putfield (i := 29) (i2 := 30) (i3 := 3) (pc' := 57) (v' := (.ref b)) (ty := (.array .byte)) d_jdk_42_method_149_54 rfl (Or.inr ⟨rfl, rfl, rfl⟩) rfl Fv Ex (by decide) rfl rfl (by simp) rfl fun h196 W197 => ?_
  replace K := K.wr W197 (Or.inl (by simp))
  replace Ex := Ex.wr W197
  replace Fv := Fv.same W197
  replace Fc := Fc.other W197 (Or.inr (slot_ne (Or.inr (hw _ (List.mem_of_getElem? (i := 28) rfl))) (Or.inr (hw _ (List.mem_of_getElem? (i := 30) rfl))) (by decide) (t := .byte) (t' := (.array .byte)) (by decide) (by decide)))
  replace As := As.other W197 (Ne.symm ne_x_s)
  replace Ab := Ab.other W197 (Ne.symm ne_x_b)
  exact retV d_jdk_42_method_149_57 rfl (by decide) (by decide) ⟨rfl, K, Ex, Fc, b, kb, Fv, Ab⟩
set_option maxRecDepth 65536 in
set_option maxHeartbeats 40000000 in
theorem rm_i2 (l : Launch) (Z : State) (a0 : Array Value) (hw : ∀ d ∈ tables_1, d.before a0 Z = true) (hEL : EW Z a0 []) (n0 : Nat) (x : Addr) (s : Addr) (ks : ClassId) (dv : Value)(d0 d1 d2 d3 : Int32) (h : Heap) (Ex : Exa Z h x "java/lang/String") (Fv : Fld Z h x "java/lang/String" "value" "[B" .null) (Fc : Fld Z h x "java/lang/String" "coder" "B" (.int (0 : Int32))) (As : Arv Z h s ks .char (4 : Int32) [(.int d0), (.int d1), (.int d2), (.int d3)] dv) (hB : Sets Z) (hU : Us Z) (hd : ch d2) (g0 : ¬ (255 : Int32) < d0) (g1 : ¬ (255 : Int32) < d1) (gt : (255 : Int32) < d2) :
    Met l true Z [] n0 (⟨"java/lang/String", "<init>", "([C)V"⟩ : MethodName) jdk_42_method_3_code 2 none ({ frames := 5, cells := 2, slots := 12, locals := 84 } : Room) [] #[(.ref x), (.ref s)] [x] h (fun v h' => v = none ∧ Keep h h' [x] ∧ Wide Z h' x d0 d1 d2 d3) := by
  refine Met.of_body (a0 := a0) (L0 := #[.val (.ref x), .val (.ref s)]) (plainFor_of_name (by first | (simp [plainName, overriddenIn]; done) | decide +kernel)) (fun m => by first | rfl | (simp [entryFrame, mkF, argsToLocals, Value.category]; done)) hw hEL (by decide) ?_
  refine aloadN (pc' := 1) d_jdk_42_method_3_0 rfl rfl rfl ?_
  refine aloadN (pc' := 2) d_jdk_42_method_3_1 rfl rfl rfl ?_
  refine iconst (pc' := 3) (v := (0 : Int32)) d_jdk_42_method_3_2 rfl rfl ?_
  refine aloadN (pc' := 4) d_jdk_42_method_3_3 rfl rfl rfl ?_
  refine arraylength (pc' := 5) d_jdk_42_method_3_4 As rfl ?_
  refine aconst_null (pc' := 6) d_jdk_42_method_3_5 rfl ?_
  refine call (i := 11) (i2 := 4) (Wd := 0) (pc' := 9) (kInit (i := 8) (i2 := 9) (i4 := 11) (a := x) (argsL := [(.ref s), (.int (0 : Int32)), (.int (4 : Int32)), .null]) (S' := []) (Wd := 0) d_jdk_42_method_3_6 rfl rfl rfl rfl (by decide) rfl pd_7 rfl rfl (Nat.le_of_ble_eq_true rfl)) (rm_iv2 l Z a0 hw hEL n0 x s ks dv d0 d1 d2 d3 _ Ex Fv Fc As hB hU hd g0 g1 gt) rfl rfl (by simp) (by decide) (by decide) (by decide) (by decide) rfl fun v_ h198 P199 sz200 => ?_
  obtain ⟨rfl, K1, W1⟩ := P199
  refine at' (ce' := 2) (sl' := 12) (pc' := 9) (L' := #[.val (.ref x), .val (.ref s)]) (S' := []) rfl rfl rfl rfl rfl ?_
  exact retV d_jdk_42_method_3_9 rfl (by decide) (by decide) ⟨rfl, K1, W1⟩
set_option maxRecDepth 65536 in
set_option maxHeartbeats 40000000 in
theorem rm_iv3 (l : Launch) (Z : State) (a0 : Array Value) (hw : ∀ d ∈ tables_1, d.before a0 Z = true) (hEL : EW Z a0 []) (n0 : Nat) (x : Addr) (s : Addr) (ks : ClassId) (dv : Value)(d0 d1 d2 d3 : Int32) (h : Heap) (Ex : Exa Z h x "java/lang/String") (Fv : Fld Z h x "java/lang/String" "value" "[B" .null) (Fc : Fld Z h x "java/lang/String" "coder" "B" (.int (0 : Int32))) (As : Arv Z h s ks .char (4 : Int32) [(.int d0), (.int d1), (.int d2), (.int d3)] dv) (hB : Sets Z) (hU : Us Z) (hd : ch d3) (g0 : ¬ (255 : Int32) < d0) (g1 : ¬ (255 : Int32) < d1) (g2 : ¬ (255 : Int32) < d2) (gt : (255 : Int32) < d3) :
    Met l true Z [] n0 (⟨"java/lang/String", "<init>", "([CIILjava/lang/Void;)V"⟩ : MethodName) jdk_42_method_149_code 6 none ({ frames := 4, cells := 2, slots := 12, locals := 66 } : Room) [] #[(.ref x), (.ref s), (.int (0 : Int32)), (.int (4 : Int32)), .null] [x] h (fun v h' => v = none ∧ Keep h h' [x] ∧ Wide Z h' x d0 d1 d2 d3) := by
  refine Met.of_body (a0 := a0) (L0 := #[.val (.ref x), .val (.ref s), .val (.int (0 : Int32)), .val (.int (4 : Int32)), .val .null, .unset]) (plainFor_of_name (by first | (simp [plainName, overriddenIn]; done) | decide +kernel)) (fun m => by first | rfl | (simp [entryFrame, mkF, argsToLocals, Value.category]; done)) hw hEL (by decide) ?_
  have K : Keep h h [x] := Keep.refl _ _
  obtain ⟨zc, fm, Cs, hz, -, -⟩ := hB
  have ne_x_s : x ≠ s := Ex.neArv As (hw _ (List.mem_of_getElem? (i := 3) rfl))
  refine aloadN (pc' := 1) d_jdk_42_method_149_0 rfl rfl rfl ?_
  refine initObj (i := 12) (i2 := 13) (i3 := 14) (Wd := 0) (pc' := 4) d_jdk_42_method_149_1 rfl rfl rfl rfl (by decide) (Nat.le_of_ble_eq_true rfl) (by decide) rfl ?_
  refine iloadN (pc' := 5) d_jdk_42_method_149_4 rfl rfl ?_
  refine ifT (pc' := 27) d_jdk_42_method_149_5 (by decide : ¬ ((4 : Int32) = (0 : Int32))) (by decide) rfl ?_
  refine old fun O201 _ => ?_
  refine getstatic (i := 15) (v := (.int zc)) (pc' := 30) d_jdk_42_method_149_27 rfl (Cs.ext O201.2) rfl ?_
  refine ifF (pc' := 33) d_jdk_42_method_149_30 (hz : ¬ (zc = (0 : Int32))) rfl ?_
  refine aloadN (pc' := 34) d_jdk_42_method_149_33 rfl rfl rfl ?_
  refine iloadN (pc' := 35) d_jdk_42_method_149_34 rfl rfl ?_
  refine iloadN (pc' := 36) d_jdk_42_method_149_35 rfl rfl ?_
  refine call (i := 19) (i2 := 18) (Wd := 0) (pc' := 39) (kStatic (i := 16) (i2 := 17) (i3 := 18) (i4 := 19) (argsL := [(.ref s), (.int (0 : Int32)), (.int (4 : Int32))]) (S' := []) (Wd := 0) d_jdk_42_method_149_36 rfl rfl rfl rfl (by decide) rfl pd_4 rfl rfl (Nat.le_of_ble_eq_true rfl)) (rm_cA3 l Z a0 hw hEL n0 s ks dv d0 d1 d2 d3 _ As hU hd g0 g1 g2 gt) rfl rfl (by simp) (by decide) (by decide) (by decide) (by decide) rfl fun v_ h202 P203 sz204 => ?_
  obtain ⟨b, kb, rfl, Xb, Ab⟩ := P203
  replace K := K.ext Xb
  replace Ex := Ex.ext Xb
  replace Fv := Fv.ext Xb
  replace Fc := Fc.ext Xb
  replace As := As.ext Xb
  have ne_x_b : x ≠ b := Ex.neArv Ab (hw _ (List.mem_of_getElem? (i := 3) rfl))
  refine at' (ce' := 2) (sl' := 12) (pc' := 39) (L' := #[.val (.ref x), .val (.ref s), .val (.int (0 : Int32)), .val (.int (4 : Int32)), .val .null, .unset]) (S' := [(.ref b)]) rfl rfl rfl rfl rfl ?_
  refine astore (pc' := 41) (L' := #[.val (.ref x), .val (.ref s), .val (.int (0 : Int32)), .val (.int (4 : Int32)), .val .null, .val (.ref b)]) d_jdk_42_method_149_39 rfl rfl rfl ?_
  refine aloadN (pc' := 42) d_jdk_42_method_149_41 rfl rfl rfl ?_
  refine aload (pc' := 44) d_jdk_42_method_149_42 rfl rfl rfl ?_
  refine iloadN (pc' := 45) d_jdk_42_method_149_44 rfl rfl ?_
  refine call (i := 26) (i2 := 18) (Wd := 1) (pc' := 48) (kStatic (i := 24) (i2 := 25) (i3 := 18) (i4 := 26) (argsL := [(.ref b), (.int (4 : Int32))]) (S' := [(.ref x)]) (Wd := 1) d_jdk_42_method_149_45 rfl rfl rfl rfl (by decide) rfl pd_6 rfl rfl (Nat.le_of_ble_eq_true rfl)) (rm_cfa l Z a0 hw hEL n0 b kb _ _ _ Ab) rfl rfl (by simp) (by decide) (by decide) (by decide) (by decide) rfl fun v_ h205 P206 sz207 => ?_
  obtain ⟨rfl, e208⟩ := P206
  rw [e208]
  refine at' (ce' := 2) (sl' := 12) (pc' := 48) (L' := #[.val (.ref x), .val (.ref s), .val (.int (0 : Int32)), .val (.int (4 : Int32)), .val .null, .val (.ref b)]) (S' := [(.int (1 : Int32)), (.ref x)]) rfl rfl rfl rfl rfl ?_
  refine putfield (i := 27) (i2 := 28) (i3 := 3) (pc' := 51) (v' := (.int (1 : Int32))) (ty := .byte) d_jdk_42_method_149_48 rfl (Or.inr ⟨rfl, rfl, rfl⟩) rfl Fc Ex (by decide) (by decide) (by decide) (by simp) rfl fun h209 W210 => ?_
  replace K := K.wr W210 (Or.inl (by simp))
  replace Ex := Ex.wr W210
  replace Fv := Fv.other W210 (Or.inr (slot_ne (Or.inr (hw _ (List.mem_of_getElem? (i := 30) rfl))) (Or.inr (hw _ (List.mem_of_getElem? (i := 28) rfl))) (by decide) (t := (.array .byte)) (t' := .byte) (by decide) (by decide)))
  replace Fc := Fc.same W210
  replace As := As.other W210 (Ne.symm ne_x_s)
  replace Ab := Ab.other W210 (Ne.symm ne_x_b)
  refine aloadN (pc' := 52) d_jdk_42_method_149_51 rfl rfl rfl ?_
  refine aload (pc' := 54) d_jdk_42_method_149_52 rfl rfl rfl ?_
  refine putfield (i := 29) (i2 := 30) (i3 := 3) (pc' := 57) (v' := (.ref b)) (ty := (.array .byte)) d_jdk_42_method_149_54 rfl (Or.inr ⟨rfl, rfl, rfl⟩) rfl Fv Ex (by decide) rfl rfl (by simp) rfl fun h211 W212 => ?_
  replace K := K.wr W212 (Or.inl (by simp))
  replace Ex := Ex.wr W212
  replace Fv := Fv.same W212
  replace Fc := Fc.other W212 (Or.inr (slot_ne (Or.inr (hw _ (List.mem_of_getElem? (i := 28) rfl))) (Or.inr (hw _ (List.mem_of_getElem? (i := 30) rfl))) (by decide) (t := .byte) (t' := (.array .byte)) (by decide) (by decide)))
  replace As := As.other W212 (Ne.symm ne_x_s)
  replace Ab := Ab.other W212 (Ne.symm ne_x_b)
  exact retV d_jdk_42_method_149_57 rfl (by decide) (by decide) ⟨rfl, K, Ex, Fc, b, kb, Fv, Ab⟩
set_option maxRecDepth 65536 in
set_option maxHeartbeats 40000000 in
theorem rm_i3 (l : Launch) (Z : State) (a0 : Array Value) (hw : ∀ d ∈ tables_1, d.before a0 Z = true) (hEL : EW Z a0 []) (n0 : Nat) (x : Addr) (s : Addr) (ks : ClassId) (dv : Value)(d0 d1 d2 d3 : Int32) (h : Heap) (Ex : Exa Z h x "java/lang/String") (Fv : Fld Z h x "java/lang/String" "value" "[B" .null) (Fc : Fld Z h x "java/lang/String" "coder" "B" (.int (0 : Int32))) (As : Arv Z h s ks .char (4 : Int32) [(.int d0), (.int d1), (.int d2), (.int d3)] dv) (hB : Sets Z) (hU : Us Z) (hd : ch d3) (g0 : ¬ (255 : Int32) < d0) (g1 : ¬ (255 : Int32) < d1) (g2 : ¬ (255 : Int32) < d2) (gt : (255 : Int32) < d3) :
    Met l true Z [] n0 (⟨"java/lang/String", "<init>", "([C)V"⟩ : MethodName) jdk_42_method_3_code 2 none ({ frames := 5, cells := 2, slots := 12, locals := 84 } : Room) [] #[(.ref x), (.ref s)] [x] h (fun v h' => v = none ∧ Keep h h' [x] ∧ Wide Z h' x d0 d1 d2 d3) := by
  refine Met.of_body (a0 := a0) (L0 := #[.val (.ref x), .val (.ref s)]) (plainFor_of_name (by first | (simp [plainName, overriddenIn]; done) | decide +kernel)) (fun m => by first | rfl | (simp [entryFrame, mkF, argsToLocals, Value.category]; done)) hw hEL (by decide) ?_
  refine aloadN (pc' := 1) d_jdk_42_method_3_0 rfl rfl rfl ?_
  refine aloadN (pc' := 2) d_jdk_42_method_3_1 rfl rfl rfl ?_
  refine iconst (pc' := 3) (v := (0 : Int32)) d_jdk_42_method_3_2 rfl rfl ?_
  refine aloadN (pc' := 4) d_jdk_42_method_3_3 rfl rfl rfl ?_
  refine arraylength (pc' := 5) d_jdk_42_method_3_4 As rfl ?_
  refine aconst_null (pc' := 6) d_jdk_42_method_3_5 rfl ?_
  refine call (i := 11) (i2 := 4) (Wd := 0) (pc' := 9) (kInit (i := 8) (i2 := 9) (i4 := 11) (a := x) (argsL := [(.ref s), (.int (0 : Int32)), (.int (4 : Int32)), .null]) (S' := []) (Wd := 0) d_jdk_42_method_3_6 rfl rfl rfl rfl (by decide) rfl pd_7 rfl rfl (Nat.le_of_ble_eq_true rfl)) (rm_iv3 l Z a0 hw hEL n0 x s ks dv d0 d1 d2 d3 _ Ex Fv Fc As hB hU hd g0 g1 g2 gt) rfl rfl (by simp) (by decide) (by decide) (by decide) (by decide) rfl fun v_ h213 P214 sz215 => ?_
  obtain ⟨rfl, K1, W1⟩ := P214
  refine at' (ce' := 2) (sl' := 12) (pc' := 9) (L' := #[.val (.ref x), .val (.ref s)]) (S' := []) rfl rfl rfl rfl rfl ?_
  exact retV d_jdk_42_method_3_9 rfl (by decide) (by decide) ⟨rfl, K1, W1⟩
set_option maxRecDepth 65536 in
set_option maxHeartbeats 40000000 in
theorem rm_isl (l : Launch) (Z : State) (a0 : Array Value) (hw : ∀ d ∈ tables_1, d.before a0 Z = true) (hEL : EW Z a0 []) (n0 : Nat) (x : Addr) (h : Heap) (Fc : Fld Z h x "java/lang/String" "coder" "B" (.int (1 : Int32))) (hB : Sets Z) :
    Met l true Z [] n0 (⟨"java/lang/String", "isLatin1", "()Z"⟩ : MethodName) jdk_42_method_154_code 1 (some .boolean) ({ frames := 0, cells := 0, slots := 0, locals := 0 } : Room) [] #[(.ref x)] [] h (fun v h' => v = some (.int 0) ∧ h' = h) := by
  refine Met.of_body (a0 := a0) (L0 := #[.val (.ref x)]) (plainFor_of_name (by first | (simp [plainName, overriddenIn]; done) | decide +kernel)) (fun m => by first | rfl | (simp [entryFrame, mkF, argsToLocals, Value.category]; done)) hw hEL (by decide) ?_
  obtain ⟨zc, fm, Cs, hz, -, -⟩ := hB
  refine old fun O216 _ => ?_
  refine getstatic (i := 15) (v := (.int zc)) (pc' := 3) d_jdk_42_method_154_0 rfl (Cs.ext O216.2) rfl ?_
  refine ifF (pc' := 6) d_jdk_42_method_154_3 (hz : ¬ (zc = (0 : Int32))) rfl ?_
  refine aloadN (pc' := 7) d_jdk_42_method_154_6 rfl rfl rfl ?_
  refine getfield (i := 27) (pc' := 10) d_jdk_42_method_154_7 rfl Fc rfl ?_
  refine ifT (pc' := 17) d_jdk_42_method_154_10 (by decide : ¬ ((1 : Int32) = (0 : Int32))) (by decide) rfl ?_
  refine iconst (pc' := 18) (v := (0 : Int32)) d_jdk_42_method_154_17 rfl rfl ?_
  exact retI d_jdk_42_method_154_18 rfl (Or.inr (Or.inl rfl)) rfl (by decide) (by decide) ⟨rfl, rfl⟩
set_option maxRecDepth 65536 in
set_option maxHeartbeats 40000000 in
theorem rm_ciN (l : Launch) (Z : State) (a0 : Array Value) (hw : ∀ d ∈ tables_1, d.before a0 Z = true) (hEL : EW Z a0 []) (n0 : Nat) (i n : Int32) (h : Heap)  (h1 : ¬ i < 0) (h2 : i < n) :
    Met l true Z [] n0 (⟨"jdk/internal/util/Preconditions", "checkIndex", "(IILjava/util/function/BiFunction;)I"⟩ : MethodName) jdk_41_method_11_code 3 (some .int) ({ frames := 0, cells := 0, slots := 0, locals := 0 } : Room) [] #[(.int i), (.int n), .null] [] h (fun v h' => v = some (.int i) ∧ h' = h) := by
  refine Met.of_body (a0 := a0) (L0 := #[.val (.int i), .val (.int n), .val .null]) (plainFor_of_name (by first | (simp [plainName, overriddenIn]; done) | decide +kernel)) (fun m => by first | rfl | (simp [entryFrame, mkF, argsToLocals, Value.category]; done)) hw hEL (by decide) ?_
  refine iloadN (pc' := 1) d_jdk_41_method_11_0 rfl rfl ?_
  refine ifF (pc' := 4) d_jdk_41_method_11_1 (h1 : ¬ (i < (0 : Int32))) rfl ?_
  refine iloadN (pc' := 5) d_jdk_41_method_11_4 rfl rfl ?_
  refine iloadN (pc' := 6) d_jdk_41_method_11_5 rfl rfl ?_
  refine icmpT (pc' := 16) d_jdk_41_method_11_6 (h2 : i < n) (by decide) rfl ?_
  refine iloadN (pc' := 17) d_jdk_41_method_11_16 rfl rfl ?_
  exact retI d_jdk_41_method_11_17 rfl (Or.inl rfl) rfl (by decide) (by decide) ⟨rfl, rfl⟩
set_option maxRecDepth 65536 in
set_option maxHeartbeats 40000000 in
theorem rm_ciR (l : Launch) (Z : State) (a0 : Array Value) (hw : ∀ d ∈ tables_1, d.before a0 Z = true) (hEL : EW Z a0 []) (n0 : Nat) (i n : Int32) (g : Addr) (h : Heap)  (h1 : ¬ i < 0) (h2 : i < n) :
    Met l true Z [] n0 (⟨"jdk/internal/util/Preconditions", "checkIndex", "(IILjava/util/function/BiFunction;)I"⟩ : MethodName) jdk_41_method_11_code 3 (some .int) ({ frames := 0, cells := 0, slots := 0, locals := 0 } : Room) [] #[(.int i), (.int n), (.ref g)] [] h (fun v h' => v = some (.int i) ∧ h' = h) := by
  refine Met.of_body (a0 := a0) (L0 := #[.val (.int i), .val (.int n), .val (.ref g)]) (plainFor_of_name (by first | (simp [plainName, overriddenIn]; done) | decide +kernel)) (fun m => by first | rfl | (simp [entryFrame, mkF, argsToLocals, Value.category]; done)) hw hEL (by decide) ?_
  refine iloadN (pc' := 1) d_jdk_41_method_11_0 rfl rfl ?_
  refine ifF (pc' := 4) d_jdk_41_method_11_1 (h1 : ¬ (i < (0 : Int32))) rfl ?_
  refine iloadN (pc' := 5) d_jdk_41_method_11_4 rfl rfl ?_
  refine iloadN (pc' := 6) d_jdk_41_method_11_5 rfl rfl ?_
  refine icmpT (pc' := 16) d_jdk_41_method_11_6 (h2 : i < n) (by decide) rfl ?_
  refine iloadN (pc' := 17) d_jdk_41_method_11_16 rfl rfl ?_
  exact retI d_jdk_41_method_11_17 rfl (Or.inl rfl) rfl (by decide) (by decide) ⟨rfl, rfl⟩
set_option maxRecDepth 65536 in
set_option maxHeartbeats 40000000 in
theorem rm_sci (l : Launch) (Z : State) (a0 : Array Value) (hw : ∀ d ∈ tables_1, d.before a0 Z = true) (hEL : EW Z a0 []) (n0 : Nat) (i n : Int32) (h : Heap)  (hB : Sets Z) (h1 : ¬ i < 0) (h2 : i < n) :
    Met l true Z [] n0 (⟨"java/lang/String", "checkIndex", "(II)V"⟩ : MethodName) jdk_42_method_155_code 2 none ({ frames := 1, cells := 0, slots := 0, locals := 20 } : Room) [] #[(.int i), (.int n)] [] h (fun v h' => v = none ∧ h' = h) := by
  refine Met.of_body (a0 := a0) (L0 := #[.val (.int i), .val (.int n)]) (plainFor_of_name (by first | (simp [plainName, overriddenIn]; done) | decide +kernel)) (fun m => by first | rfl | (simp [entryFrame, mkF, argsToLocals, Value.category]; done)) hw hEL (by decide) ?_
  obtain ⟨zc, fm, Cs, hz, Sf, hfm⟩ := hB
  rcases own_ref hfm with rfl | ⟨g, rfl⟩
  · skip
    refine iloadN (pc' := 1) d_jdk_42_method_155_0 rfl rfl ?_
    refine iloadN (pc' := 2) d_jdk_42_method_155_1 rfl rfl ?_
    refine old fun O217 _ => ?_
    refine getstatic (i := 81) (v := .null) (pc' := 5) d_jdk_42_method_155_2 rfl (Sf.ext O217.2) rfl ?_
    refine call (i := 85) (i2 := 82) (Wd := 0) (pc' := 8) (kStatic (i := 83) (i2 := 84) (i3 := 82) (i4 := 85) (argsL := [(.int i), (.int n), .null]) (S' := []) (Wd := 0) d_jdk_42_method_155_5 rfl rfl rfl rfl (by decide) rfl pd_8 rfl rfl (Nat.le_of_ble_eq_true rfl)) (rm_ciN l Z a0 hw hEL n0 i n _ h1 h2) rfl rfl (by simp) (by decide) (by decide) (by decide) (by decide) rfl fun v_ h218 P219 sz220 => ?_
    obtain ⟨rfl, e221⟩ := P219
    rw [e221]
    refine at' (ce' := 0) (sl' := 0) (pc' := 8) (L' := #[.val (.int i), .val (.int n)]) (S' := [(.int i)]) rfl rfl rfl rfl rfl ?_
    refine Ow.pop (pc' := 9) d_jdk_42_method_155_8 rfl rfl ?_
    exact retV d_jdk_42_method_155_9 rfl (by decide) (by decide) ⟨rfl, rfl⟩
  · skip
    refine iloadN (pc' := 1) d_jdk_42_method_155_0 rfl rfl ?_
    refine iloadN (pc' := 2) d_jdk_42_method_155_1 rfl rfl ?_
    refine old fun O222 _ => ?_
    refine getstatic (i := 81) (v := (.ref g)) (pc' := 5) d_jdk_42_method_155_2 rfl (Sf.ext O222.2) rfl ?_
    refine call (i := 85) (i2 := 82) (Wd := 0) (pc' := 8) (kStatic (i := 83) (i2 := 84) (i3 := 82) (i4 := 85) (argsL := [(.int i), (.int n), (.ref g)]) (S' := []) (Wd := 0) d_jdk_42_method_155_5 rfl rfl rfl rfl (by decide) rfl pd_8 rfl rfl (Nat.le_of_ble_eq_true rfl)) (rm_ciR l Z a0 hw hEL n0 i n g _ h1 h2) rfl rfl (by simp) (by decide) (by decide) (by decide) (by decide) rfl fun v_ h223 P224 sz225 => ?_
    obtain ⟨rfl, e226⟩ := P224
    rw [e226]
    refine at' (ce' := 0) (sl' := 0) (pc' := 8) (L' := #[.val (.int i), .val (.int n)]) (S' := [(.int i)]) rfl rfl rfl rfl rfl ?_
    refine Ow.pop (pc' := 9) d_jdk_42_method_155_8 rfl rfl ?_
    exact retV d_jdk_42_method_155_9 rfl (by decide) (by decide) ⟨rfl, rfl⟩
set_option maxRecDepth 65536 in
set_option maxHeartbeats 40000000 in
theorem rm_ulen (l : Launch) (Z : State) (a0 : Array Value) (hw : ∀ d ∈ tables_1, d.before a0 Z = true) (hEL : EW Z a0 []) (n0 : Nat) (b : Addr) (kb : ClassId) (vs : List Value) (dv : Value) (h : Heap) (Ab : Arv Z h b kb .byte (8 : Int32) vs dv)  :
    Met l true Z [] n0 (⟨"java/lang/StringUTF16", "length", "([B)I"⟩ : MethodName) jdk_52_method_6_code 1 (some .int) ({ frames := 0, cells := 0, slots := 0, locals := 0 } : Room) [] #[(.ref b)] [] h (fun v h' => v = some (.int 4) ∧ h' = h) := by
  refine Met.of_body (a0 := a0) (L0 := #[.val (.ref b)]) (plainFor_of_name (by first | (simp [plainName, overriddenIn]; done) | decide +kernel)) (fun m => by first | rfl | (simp [entryFrame, mkF, argsToLocals, Value.category]; done)) hw hEL (by decide) ?_
  refine aloadN (pc' := 1) d_jdk_52_method_6_0 rfl rfl rfl ?_
  refine arraylength (pc' := 2) d_jdk_52_method_6_1 Ab rfl ?_
  refine iconst (pc' := 3) (v := (1 : Int32)) d_jdk_52_method_6_2 rfl rfl ?_
  refine ishr (pc' := 4) d_jdk_52_method_6_3 rfl ?_
  rw [show ((8 : Int32) >>> ((1 : Int32) &&& 31)) = (4 : Int32) by decide]
  exact retI d_jdk_52_method_6_4 rfl (Or.inl rfl) rfl (by decide) (by decide) ⟨rfl, rfl⟩
set_option maxRecDepth 65536 in
set_option maxHeartbeats 40000000 in
theorem rm_uci (l : Launch) (Z : State) (a0 : Array Value) (hw : ∀ d ∈ tables_1, d.before a0 Z = true) (hEL : EW Z a0 []) (n0 : Nat) (i : Int32) (b : Addr) (kb : ClassId) (vs : List Value) (dv : Value) (h : Heap) (Ab : Arv Z h b kb .byte (8 : Int32) vs dv) (hB : Sets Z) (h1 : ¬ i < 0) (h2 : i < 4) :
    Met l true Z [] n0 (⟨"java/lang/StringUTF16", "checkIndex", "(I[B)V"⟩ : MethodName) jdk_52_method_91_code 2 none ({ frames := 2, cells := 0, slots := 0, locals := 36 } : Room) [] #[(.int i), (.ref b)] [] h (fun v h' => v = none ∧ h' = h) := by
  refine Met.of_body (a0 := a0) (L0 := #[.val (.int i), .val (.ref b)]) (plainFor_of_name (by first | (simp [plainName, overriddenIn]; done) | decide +kernel)) (fun m => by first | rfl | (simp [entryFrame, mkF, argsToLocals, Value.category]; done)) hw hEL (by decide) ?_
  refine iloadN (pc' := 1) d_jdk_52_method_91_0 rfl rfl ?_
  refine aloadN (pc' := 2) d_jdk_52_method_91_1 rfl rfl rfl ?_
  refine call (i := 77) (i2 := 18) (Wd := 1) (pc' := 5) (kStatic (i := 75) (i2 := 76) (i3 := 18) (i4 := 77) (argsL := [(.ref b)]) (S' := [(.int i)]) (Wd := 1) d_jdk_52_method_91_2 rfl rfl rfl rfl (by decide) rfl pd_9 rfl rfl (Nat.le_of_ble_eq_true rfl)) (rm_ulen l Z a0 hw hEL n0 b kb vs dv _ Ab) rfl rfl (by simp) (by decide) (by decide) (by decide) (by decide) rfl fun v_ h227 P228 sz229 => ?_
  obtain ⟨rfl, e230⟩ := P228
  rw [e230]
  refine at' (ce' := 0) (sl' := 0) (pc' := 5) (L' := #[.val (.int i), .val (.ref b)]) (S' := [(.int (4 : Int32)), (.int i)]) rfl rfl rfl rfl rfl ?_
  refine call (i := 80) (i2 := 4) (Wd := 0) (pc' := 8) (kStatic (i := 78) (i2 := 79) (i3 := 4) (i4 := 80) (argsL := [(.int i), (.int (4 : Int32))]) (S' := []) (Wd := 0) d_jdk_52_method_91_5 rfl rfl rfl rfl (by decide) rfl pd_10 rfl rfl (Nat.le_of_ble_eq_true rfl)) (rm_sci l Z a0 hw hEL n0 i 4 _ hB h1 h2) rfl rfl (by simp) (by decide) (by decide) (by decide) (by decide) rfl fun v_ h231 P232 sz233 => ?_
  obtain ⟨rfl, e234⟩ := P232
  rw [e234]
  refine at' (ce' := 0) (sl' := 0) (pc' := 8) (L' := #[.val (.int i), .val (.ref b)]) (S' := []) rfl rfl rfl rfl rfl ?_
  exact retV d_jdk_52_method_91_8 rfl (by decide) (by decide) ⟨rfl, rfl⟩
set_option maxRecDepth 65536 in
set_option maxHeartbeats 40000000 in
theorem rm_uch0 (l : Launch) (Z : State) (a0 : Array Value) (hw : ∀ d ∈ tables_1, d.before a0 Z = true) (hEL : EW Z a0 []) (n0 : Nat) (b : Addr) (kb : ClassId) (d0 d1 d2 d3 : Int32) (h : Heap) (Ab : Arv Z h b kb .byte (8 : Int32) (wb d0 d1 d2 d3) (.int (0 : Int32))) (hB : Sets Z) (hU : Us Z) (hk : ch d0) :
    Met l true Z [] n0 (⟨"java/lang/StringUTF16", "charAt", "([BI)C"⟩ : MethodName) jdk_52_method_83_code 2 (some .char) ({ frames := 3, cells := 0, slots := 0, locals := 52 } : Room) [] #[(.ref b), (.int (0 : Int32))] [] h (fun v h' => v = some (.int d0) ∧ h' = h) := by
  refine Met.of_body (a0 := a0) (L0 := #[.val (.ref b), .val (.int (0 : Int32))]) (plainFor_of_name (by first | (simp [plainName, overriddenIn]; done) | decide +kernel)) (fun m => by first | rfl | (simp [entryFrame, mkF, argsToLocals, Value.category]; done)) hw hEL (by decide) ?_
  refine iloadN (pc' := 1) d_jdk_52_method_83_0 rfl rfl ?_
  refine aloadN (pc' := 2) d_jdk_52_method_83_1 rfl rfl rfl ?_
  refine call (i := 74) (i2 := 18) (Wd := 0) (pc' := 5) (kStatic (i := 72) (i2 := 73) (i3 := 18) (i4 := 74) (argsL := [(.int (0 : Int32)), (.ref b)]) (S' := []) (Wd := 0) d_jdk_52_method_83_2 rfl rfl rfl rfl (by decide) rfl pd_11 rfl rfl (Nat.le_of_ble_eq_true rfl)) (rm_uci l Z a0 hw hEL n0 0 b kb _ _ _ Ab hB (by decide) (by decide)) rfl rfl (by simp) (by decide) (by decide) (by decide) (by decide) rfl fun v_ h235 P236 sz237 => ?_
  obtain ⟨rfl, e238⟩ := P236
  rw [e238]
  refine at' (ce' := 0) (sl' := 0) (pc' := 5) (L' := #[.val (.ref b), .val (.int (0 : Int32))]) (S' := []) rfl rfl rfl rfl rfl ?_
  refine aloadN (pc' := 6) d_jdk_52_method_83_5 rfl rfl rfl ?_
  refine iloadN (pc' := 7) d_jdk_52_method_83_6 rfl rfl ?_
  refine call (i := 54) (i2 := 18) (Wd := 0) (pc' := 10) (kStatic (i := 52) (i2 := 53) (i3 := 18) (i4 := 54) (argsL := [(.ref b), (.int (0 : Int32))]) (S' := []) (Wd := 0) d_jdk_52_method_83_7 rfl rfl rfl rfl (by decide) rfl pd_5 rfl rfl (Nat.le_of_ble_eq_true rfl)) (rm_get0 l Z a0 hw hEL n0 b kb d0 d1 d2 d3 _ Ab hU hk) rfl rfl (by simp) (by decide) (by decide) (by decide) (by decide) rfl fun v_ h239 P240 sz241 => ?_
  obtain ⟨rfl, e242⟩ := P240
  rw [e242]
  refine at' (ce' := 0) (sl' := 0) (pc' := 10) (L' := #[.val (.ref b), .val (.int (0 : Int32))]) (S' := [(.int d0)]) rfl rfl rfl rfl rfl ?_
  exact retI d_jdk_52_method_83_10 rfl (Or.inr (Or.inr (Or.inr (Or.inl rfl)))) (congrArg Value.int (own_nar hk)) (by decide) (by decide) ⟨rfl, rfl⟩
set_option maxRecDepth 65536 in
set_option maxHeartbeats 40000000 in
theorem rm_chU0 (l : Launch) (Z : State) (a0 : Array Value) (hw : ∀ d ∈ tables_1, d.before a0 Z = true) (hEL : EW Z a0 []) (n0 : Nat) (x : Addr) (d0 d1 d2 d3 : Int32) (h : Heap)  (hB : Sets Z) (hU : Us Z) (hk : ch d0) (W : Wide Z h x d0 d1 d2 d3) :
    Met l true Z [] n0 (⟨"java/lang/String", "charAt", "(I)C"⟩ : MethodName) jdk_42_method_56_code 2 (some .char) ({ frames := 4, cells := 0, slots := 0, locals := 68 } : Room) [] #[(.ref x), (.int (0 : Int32))] [] h (fun v h' => v = some (.int d0) ∧ h' = h) := by
  refine Met.of_body (a0 := a0) (L0 := #[.val (.ref x), .val (.int (0 : Int32))]) (plainFor_of_name (by first | (simp [plainName, overriddenIn]; done) | decide +kernel)) (fun m => by first | rfl | (simp [entryFrame, mkF, argsToLocals, Value.category]; done)) hw hEL (by decide) ?_
  obtain ⟨Ex, Fc, b, kb, Fv, Ab⟩ := W
  refine aloadN (pc' := 1) d_jdk_42_method_56_0 rfl rfl rfl ?_
  refine call (i := 68) (i2 := 4) (Wd := 0) (pc' := 4) (kVirt (i := 64) (i2 := 65) (i3 := 67) (i4 := 66) (C := "java/lang/String") (a := x) (argsL := []) (S' := []) (Wd := 0) d_jdk_42_method_56_1 rfl rfl rfl rfl Ex (by decide) rfl pd_12 rfl rfl (Nat.le_of_ble_eq_true rfl)) (rm_isl l Z a0 hw hEL n0 x _ Fc hB) rfl rfl (by simp) (by decide) (by decide) (by decide) (by decide) rfl fun v_ h243 P244 sz245 => ?_
  obtain ⟨rfl, e246⟩ := P244
  rw [e246]
  refine at' (ce' := 0) (sl' := 0) (pc' := 4) (L' := #[.val (.ref x), .val (.int (0 : Int32))]) (S' := [(.int (0 : Int32))]) rfl rfl rfl rfl rfl ?_
  refine ifT (pc' := 16) d_jdk_42_method_56_4 (rfl : (0 : Int32) = (0 : Int32)) (by decide) rfl ?_
  refine aloadN (pc' := 17) d_jdk_42_method_56_16 rfl rfl rfl ?_
  refine getfield (i := 29) (pc' := 20) d_jdk_42_method_56_17 rfl Fv rfl ?_
  refine iloadN (pc' := 21) d_jdk_42_method_56_20 rfl rfl ?_
  refine call (i := 71) (i2 := 18) (Wd := 0) (pc' := 24) (kStatic (i := 69) (i2 := 70) (i3 := 18) (i4 := 71) (argsL := [(.ref b), (.int (0 : Int32))]) (S' := []) (Wd := 0) d_jdk_42_method_56_21 rfl rfl rfl rfl (by decide) rfl pd_5 rfl rfl (Nat.le_of_ble_eq_true rfl)) (rm_uch0 l Z a0 hw hEL n0 b kb d0 d1 d2 d3 _ Ab hB hU hk) rfl rfl (by simp) (by decide) (by decide) (by decide) (by decide) rfl fun v_ h247 P248 sz249 => ?_
  obtain ⟨rfl, e250⟩ := P248
  rw [e250]
  refine at' (ce' := 0) (sl' := 0) (pc' := 24) (L' := #[.val (.ref x), .val (.int (0 : Int32))]) (S' := [(.int d0)]) rfl rfl rfl rfl rfl ?_
  exact retI d_jdk_42_method_56_24 rfl (Or.inr (Or.inr (Or.inr (Or.inl rfl)))) (congrArg Value.int (own_nar hk)) (by decide) (by decide) ⟨rfl, rfl⟩
set_option maxRecDepth 65536 in
set_option maxHeartbeats 40000000 in
theorem rm_uch1 (l : Launch) (Z : State) (a0 : Array Value) (hw : ∀ d ∈ tables_1, d.before a0 Z = true) (hEL : EW Z a0 []) (n0 : Nat) (b : Addr) (kb : ClassId) (d0 d1 d2 d3 : Int32) (h : Heap) (Ab : Arv Z h b kb .byte (8 : Int32) (wb d0 d1 d2 d3) (.int (0 : Int32))) (hB : Sets Z) (hU : Us Z) (hk : ch d1) :
    Met l true Z [] n0 (⟨"java/lang/StringUTF16", "charAt", "([BI)C"⟩ : MethodName) jdk_52_method_83_code 2 (some .char) ({ frames := 3, cells := 0, slots := 0, locals := 52 } : Room) [] #[(.ref b), (.int (1 : Int32))] [] h (fun v h' => v = some (.int d1) ∧ h' = h) := by
  refine Met.of_body (a0 := a0) (L0 := #[.val (.ref b), .val (.int (1 : Int32))]) (plainFor_of_name (by first | (simp [plainName, overriddenIn]; done) | decide +kernel)) (fun m => by first | rfl | (simp [entryFrame, mkF, argsToLocals, Value.category]; done)) hw hEL (by decide) ?_
  refine iloadN (pc' := 1) d_jdk_52_method_83_0 rfl rfl ?_
  refine aloadN (pc' := 2) d_jdk_52_method_83_1 rfl rfl rfl ?_
  refine call (i := 74) (i2 := 18) (Wd := 0) (pc' := 5) (kStatic (i := 72) (i2 := 73) (i3 := 18) (i4 := 74) (argsL := [(.int (1 : Int32)), (.ref b)]) (S' := []) (Wd := 0) d_jdk_52_method_83_2 rfl rfl rfl rfl (by decide) rfl pd_11 rfl rfl (Nat.le_of_ble_eq_true rfl)) (rm_uci l Z a0 hw hEL n0 1 b kb _ _ _ Ab hB (by decide) (by decide)) rfl rfl (by simp) (by decide) (by decide) (by decide) (by decide) rfl fun v_ h251 P252 sz253 => ?_
  obtain ⟨rfl, e254⟩ := P252
  rw [e254]
  refine at' (ce' := 0) (sl' := 0) (pc' := 5) (L' := #[.val (.ref b), .val (.int (1 : Int32))]) (S' := []) rfl rfl rfl rfl rfl ?_
  refine aloadN (pc' := 6) d_jdk_52_method_83_5 rfl rfl rfl ?_
  refine iloadN (pc' := 7) d_jdk_52_method_83_6 rfl rfl ?_
  refine call (i := 54) (i2 := 18) (Wd := 0) (pc' := 10) (kStatic (i := 52) (i2 := 53) (i3 := 18) (i4 := 54) (argsL := [(.ref b), (.int (1 : Int32))]) (S' := []) (Wd := 0) d_jdk_52_method_83_7 rfl rfl rfl rfl (by decide) rfl pd_5 rfl rfl (Nat.le_of_ble_eq_true rfl)) (rm_get1 l Z a0 hw hEL n0 b kb d0 d1 d2 d3 _ Ab hU hk) rfl rfl (by simp) (by decide) (by decide) (by decide) (by decide) rfl fun v_ h255 P256 sz257 => ?_
  obtain ⟨rfl, e258⟩ := P256
  rw [e258]
  refine at' (ce' := 0) (sl' := 0) (pc' := 10) (L' := #[.val (.ref b), .val (.int (1 : Int32))]) (S' := [(.int d1)]) rfl rfl rfl rfl rfl ?_
  exact retI d_jdk_52_method_83_10 rfl (Or.inr (Or.inr (Or.inr (Or.inl rfl)))) (congrArg Value.int (own_nar hk)) (by decide) (by decide) ⟨rfl, rfl⟩
set_option maxRecDepth 65536 in
set_option maxHeartbeats 40000000 in
theorem rm_chU1 (l : Launch) (Z : State) (a0 : Array Value) (hw : ∀ d ∈ tables_1, d.before a0 Z = true) (hEL : EW Z a0 []) (n0 : Nat) (x : Addr) (d0 d1 d2 d3 : Int32) (h : Heap)  (hB : Sets Z) (hU : Us Z) (hk : ch d1) (W : Wide Z h x d0 d1 d2 d3) :
    Met l true Z [] n0 (⟨"java/lang/String", "charAt", "(I)C"⟩ : MethodName) jdk_42_method_56_code 2 (some .char) ({ frames := 4, cells := 0, slots := 0, locals := 68 } : Room) [] #[(.ref x), (.int (1 : Int32))] [] h (fun v h' => v = some (.int d1) ∧ h' = h) := by
  refine Met.of_body (a0 := a0) (L0 := #[.val (.ref x), .val (.int (1 : Int32))]) (plainFor_of_name (by first | (simp [plainName, overriddenIn]; done) | decide +kernel)) (fun m => by first | rfl | (simp [entryFrame, mkF, argsToLocals, Value.category]; done)) hw hEL (by decide) ?_
  obtain ⟨Ex, Fc, b, kb, Fv, Ab⟩ := W
  refine aloadN (pc' := 1) d_jdk_42_method_56_0 rfl rfl rfl ?_
  refine call (i := 68) (i2 := 4) (Wd := 0) (pc' := 4) (kVirt (i := 64) (i2 := 65) (i3 := 67) (i4 := 66) (C := "java/lang/String") (a := x) (argsL := []) (S' := []) (Wd := 0) d_jdk_42_method_56_1 rfl rfl rfl rfl Ex (by decide) rfl pd_12 rfl rfl (Nat.le_of_ble_eq_true rfl)) (rm_isl l Z a0 hw hEL n0 x _ Fc hB) rfl rfl (by simp) (by decide) (by decide) (by decide) (by decide) rfl fun v_ h259 P260 sz261 => ?_
  obtain ⟨rfl, e262⟩ := P260
  rw [e262]
  refine at' (ce' := 0) (sl' := 0) (pc' := 4) (L' := #[.val (.ref x), .val (.int (1 : Int32))]) (S' := [(.int (0 : Int32))]) rfl rfl rfl rfl rfl ?_
  refine ifT (pc' := 16) d_jdk_42_method_56_4 (rfl : (0 : Int32) = (0 : Int32)) (by decide) rfl ?_
  refine aloadN (pc' := 17) d_jdk_42_method_56_16 rfl rfl rfl ?_
  refine getfield (i := 29) (pc' := 20) d_jdk_42_method_56_17 rfl Fv rfl ?_
  refine iloadN (pc' := 21) d_jdk_42_method_56_20 rfl rfl ?_
  refine call (i := 71) (i2 := 18) (Wd := 0) (pc' := 24) (kStatic (i := 69) (i2 := 70) (i3 := 18) (i4 := 71) (argsL := [(.ref b), (.int (1 : Int32))]) (S' := []) (Wd := 0) d_jdk_42_method_56_21 rfl rfl rfl rfl (by decide) rfl pd_5 rfl rfl (Nat.le_of_ble_eq_true rfl)) (rm_uch1 l Z a0 hw hEL n0 b kb d0 d1 d2 d3 _ Ab hB hU hk) rfl rfl (by simp) (by decide) (by decide) (by decide) (by decide) rfl fun v_ h263 P264 sz265 => ?_
  obtain ⟨rfl, e266⟩ := P264
  rw [e266]
  refine at' (ce' := 0) (sl' := 0) (pc' := 24) (L' := #[.val (.ref x), .val (.int (1 : Int32))]) (S' := [(.int d1)]) rfl rfl rfl rfl rfl ?_
  exact retI d_jdk_42_method_56_24 rfl (Or.inr (Or.inr (Or.inr (Or.inl rfl)))) (congrArg Value.int (own_nar hk)) (by decide) (by decide) ⟨rfl, rfl⟩
set_option maxRecDepth 65536 in
set_option maxHeartbeats 40000000 in
theorem rm_uch2 (l : Launch) (Z : State) (a0 : Array Value) (hw : ∀ d ∈ tables_1, d.before a0 Z = true) (hEL : EW Z a0 []) (n0 : Nat) (b : Addr) (kb : ClassId) (d0 d1 d2 d3 : Int32) (h : Heap) (Ab : Arv Z h b kb .byte (8 : Int32) (wb d0 d1 d2 d3) (.int (0 : Int32))) (hB : Sets Z) (hU : Us Z) (hk : ch d2) :
    Met l true Z [] n0 (⟨"java/lang/StringUTF16", "charAt", "([BI)C"⟩ : MethodName) jdk_52_method_83_code 2 (some .char) ({ frames := 3, cells := 0, slots := 0, locals := 52 } : Room) [] #[(.ref b), (.int (2 : Int32))] [] h (fun v h' => v = some (.int d2) ∧ h' = h) := by
  refine Met.of_body (a0 := a0) (L0 := #[.val (.ref b), .val (.int (2 : Int32))]) (plainFor_of_name (by first | (simp [plainName, overriddenIn]; done) | decide +kernel)) (fun m => by first | rfl | (simp [entryFrame, mkF, argsToLocals, Value.category]; done)) hw hEL (by decide) ?_
  refine iloadN (pc' := 1) d_jdk_52_method_83_0 rfl rfl ?_
  refine aloadN (pc' := 2) d_jdk_52_method_83_1 rfl rfl rfl ?_
  refine call (i := 74) (i2 := 18) (Wd := 0) (pc' := 5) (kStatic (i := 72) (i2 := 73) (i3 := 18) (i4 := 74) (argsL := [(.int (2 : Int32)), (.ref b)]) (S' := []) (Wd := 0) d_jdk_52_method_83_2 rfl rfl rfl rfl (by decide) rfl pd_11 rfl rfl (Nat.le_of_ble_eq_true rfl)) (rm_uci l Z a0 hw hEL n0 2 b kb _ _ _ Ab hB (by decide) (by decide)) rfl rfl (by simp) (by decide) (by decide) (by decide) (by decide) rfl fun v_ h267 P268 sz269 => ?_
  obtain ⟨rfl, e270⟩ := P268
  rw [e270]
  refine at' (ce' := 0) (sl' := 0) (pc' := 5) (L' := #[.val (.ref b), .val (.int (2 : Int32))]) (S' := []) rfl rfl rfl rfl rfl ?_
  refine aloadN (pc' := 6) d_jdk_52_method_83_5 rfl rfl rfl ?_
  refine iloadN (pc' := 7) d_jdk_52_method_83_6 rfl rfl ?_
  refine call (i := 54) (i2 := 18) (Wd := 0) (pc' := 10) (kStatic (i := 52) (i2 := 53) (i3 := 18) (i4 := 54) (argsL := [(.ref b), (.int (2 : Int32))]) (S' := []) (Wd := 0) d_jdk_52_method_83_7 rfl rfl rfl rfl (by decide) rfl pd_5 rfl rfl (Nat.le_of_ble_eq_true rfl)) (rm_get2 l Z a0 hw hEL n0 b kb d0 d1 d2 d3 _ Ab hU hk) rfl rfl (by simp) (by decide) (by decide) (by decide) (by decide) rfl fun v_ h271 P272 sz273 => ?_
  obtain ⟨rfl, e274⟩ := P272
  rw [e274]
  refine at' (ce' := 0) (sl' := 0) (pc' := 10) (L' := #[.val (.ref b), .val (.int (2 : Int32))]) (S' := [(.int d2)]) rfl rfl rfl rfl rfl ?_
  exact retI d_jdk_52_method_83_10 rfl (Or.inr (Or.inr (Or.inr (Or.inl rfl)))) (congrArg Value.int (own_nar hk)) (by decide) (by decide) ⟨rfl, rfl⟩
set_option maxRecDepth 65536 in
set_option maxHeartbeats 40000000 in
theorem rm_chU2 (l : Launch) (Z : State) (a0 : Array Value) (hw : ∀ d ∈ tables_1, d.before a0 Z = true) (hEL : EW Z a0 []) (n0 : Nat) (x : Addr) (d0 d1 d2 d3 : Int32) (h : Heap)  (hB : Sets Z) (hU : Us Z) (hk : ch d2) (W : Wide Z h x d0 d1 d2 d3) :
    Met l true Z [] n0 (⟨"java/lang/String", "charAt", "(I)C"⟩ : MethodName) jdk_42_method_56_code 2 (some .char) ({ frames := 4, cells := 0, slots := 0, locals := 68 } : Room) [] #[(.ref x), (.int (2 : Int32))] [] h (fun v h' => v = some (.int d2) ∧ h' = h) := by
  refine Met.of_body (a0 := a0) (L0 := #[.val (.ref x), .val (.int (2 : Int32))]) (plainFor_of_name (by first | (simp [plainName, overriddenIn]; done) | decide +kernel)) (fun m => by first | rfl | (simp [entryFrame, mkF, argsToLocals, Value.category]; done)) hw hEL (by decide) ?_
  obtain ⟨Ex, Fc, b, kb, Fv, Ab⟩ := W
  refine aloadN (pc' := 1) d_jdk_42_method_56_0 rfl rfl rfl ?_
  refine call (i := 68) (i2 := 4) (Wd := 0) (pc' := 4) (kVirt (i := 64) (i2 := 65) (i3 := 67) (i4 := 66) (C := "java/lang/String") (a := x) (argsL := []) (S' := []) (Wd := 0) d_jdk_42_method_56_1 rfl rfl rfl rfl Ex (by decide) rfl pd_12 rfl rfl (Nat.le_of_ble_eq_true rfl)) (rm_isl l Z a0 hw hEL n0 x _ Fc hB) rfl rfl (by simp) (by decide) (by decide) (by decide) (by decide) rfl fun v_ h275 P276 sz277 => ?_
  obtain ⟨rfl, e278⟩ := P276
  rw [e278]
  refine at' (ce' := 0) (sl' := 0) (pc' := 4) (L' := #[.val (.ref x), .val (.int (2 : Int32))]) (S' := [(.int (0 : Int32))]) rfl rfl rfl rfl rfl ?_
  refine ifT (pc' := 16) d_jdk_42_method_56_4 (rfl : (0 : Int32) = (0 : Int32)) (by decide) rfl ?_
  refine aloadN (pc' := 17) d_jdk_42_method_56_16 rfl rfl rfl ?_
  refine getfield (i := 29) (pc' := 20) d_jdk_42_method_56_17 rfl Fv rfl ?_
  refine iloadN (pc' := 21) d_jdk_42_method_56_20 rfl rfl ?_
  refine call (i := 71) (i2 := 18) (Wd := 0) (pc' := 24) (kStatic (i := 69) (i2 := 70) (i3 := 18) (i4 := 71) (argsL := [(.ref b), (.int (2 : Int32))]) (S' := []) (Wd := 0) d_jdk_42_method_56_21 rfl rfl rfl rfl (by decide) rfl pd_5 rfl rfl (Nat.le_of_ble_eq_true rfl)) (rm_uch2 l Z a0 hw hEL n0 b kb d0 d1 d2 d3 _ Ab hB hU hk) rfl rfl (by simp) (by decide) (by decide) (by decide) (by decide) rfl fun v_ h279 P280 sz281 => ?_
  obtain ⟨rfl, e282⟩ := P280
  rw [e282]
  refine at' (ce' := 0) (sl' := 0) (pc' := 24) (L' := #[.val (.ref x), .val (.int (2 : Int32))]) (S' := [(.int d2)]) rfl rfl rfl rfl rfl ?_
  exact retI d_jdk_42_method_56_24 rfl (Or.inr (Or.inr (Or.inr (Or.inl rfl)))) (congrArg Value.int (own_nar hk)) (by decide) (by decide) ⟨rfl, rfl⟩
set_option maxRecDepth 65536 in
set_option maxHeartbeats 40000000 in
theorem rm_uch3 (l : Launch) (Z : State) (a0 : Array Value) (hw : ∀ d ∈ tables_1, d.before a0 Z = true) (hEL : EW Z a0 []) (n0 : Nat) (b : Addr) (kb : ClassId) (d0 d1 d2 d3 : Int32) (h : Heap) (Ab : Arv Z h b kb .byte (8 : Int32) (wb d0 d1 d2 d3) (.int (0 : Int32))) (hB : Sets Z) (hU : Us Z) (hk : ch d3) :
    Met l true Z [] n0 (⟨"java/lang/StringUTF16", "charAt", "([BI)C"⟩ : MethodName) jdk_52_method_83_code 2 (some .char) ({ frames := 3, cells := 0, slots := 0, locals := 52 } : Room) [] #[(.ref b), (.int (3 : Int32))] [] h (fun v h' => v = some (.int d3) ∧ h' = h) := by
  refine Met.of_body (a0 := a0) (L0 := #[.val (.ref b), .val (.int (3 : Int32))]) (plainFor_of_name (by first | (simp [plainName, overriddenIn]; done) | decide +kernel)) (fun m => by first | rfl | (simp [entryFrame, mkF, argsToLocals, Value.category]; done)) hw hEL (by decide) ?_
  refine iloadN (pc' := 1) d_jdk_52_method_83_0 rfl rfl ?_
  refine aloadN (pc' := 2) d_jdk_52_method_83_1 rfl rfl rfl ?_
  refine call (i := 74) (i2 := 18) (Wd := 0) (pc' := 5) (kStatic (i := 72) (i2 := 73) (i3 := 18) (i4 := 74) (argsL := [(.int (3 : Int32)), (.ref b)]) (S' := []) (Wd := 0) d_jdk_52_method_83_2 rfl rfl rfl rfl (by decide) rfl pd_11 rfl rfl (Nat.le_of_ble_eq_true rfl)) (rm_uci l Z a0 hw hEL n0 3 b kb _ _ _ Ab hB (by decide) (by decide)) rfl rfl (by simp) (by decide) (by decide) (by decide) (by decide) rfl fun v_ h283 P284 sz285 => ?_
  obtain ⟨rfl, e286⟩ := P284
  rw [e286]
  refine at' (ce' := 0) (sl' := 0) (pc' := 5) (L' := #[.val (.ref b), .val (.int (3 : Int32))]) (S' := []) rfl rfl rfl rfl rfl ?_
  refine aloadN (pc' := 6) d_jdk_52_method_83_5 rfl rfl rfl ?_
  refine iloadN (pc' := 7) d_jdk_52_method_83_6 rfl rfl ?_
  refine call (i := 54) (i2 := 18) (Wd := 0) (pc' := 10) (kStatic (i := 52) (i2 := 53) (i3 := 18) (i4 := 54) (argsL := [(.ref b), (.int (3 : Int32))]) (S' := []) (Wd := 0) d_jdk_52_method_83_7 rfl rfl rfl rfl (by decide) rfl pd_5 rfl rfl (Nat.le_of_ble_eq_true rfl)) (rm_get3 l Z a0 hw hEL n0 b kb d0 d1 d2 d3 _ Ab hU hk) rfl rfl (by simp) (by decide) (by decide) (by decide) (by decide) rfl fun v_ h287 P288 sz289 => ?_
  obtain ⟨rfl, e290⟩ := P288
  rw [e290]
  refine at' (ce' := 0) (sl' := 0) (pc' := 10) (L' := #[.val (.ref b), .val (.int (3 : Int32))]) (S' := [(.int d3)]) rfl rfl rfl rfl rfl ?_
  exact retI d_jdk_52_method_83_10 rfl (Or.inr (Or.inr (Or.inr (Or.inl rfl)))) (congrArg Value.int (own_nar hk)) (by decide) (by decide) ⟨rfl, rfl⟩
set_option maxRecDepth 65536 in
set_option maxHeartbeats 40000000 in
theorem rm_chU3 (l : Launch) (Z : State) (a0 : Array Value) (hw : ∀ d ∈ tables_1, d.before a0 Z = true) (hEL : EW Z a0 []) (n0 : Nat) (x : Addr) (d0 d1 d2 d3 : Int32) (h : Heap)  (hB : Sets Z) (hU : Us Z) (hk : ch d3) (W : Wide Z h x d0 d1 d2 d3) :
    Met l true Z [] n0 (⟨"java/lang/String", "charAt", "(I)C"⟩ : MethodName) jdk_42_method_56_code 2 (some .char) ({ frames := 4, cells := 0, slots := 0, locals := 68 } : Room) [] #[(.ref x), (.int (3 : Int32))] [] h (fun v h' => v = some (.int d3) ∧ h' = h) := by
  refine Met.of_body (a0 := a0) (L0 := #[.val (.ref x), .val (.int (3 : Int32))]) (plainFor_of_name (by first | (simp [plainName, overriddenIn]; done) | decide +kernel)) (fun m => by first | rfl | (simp [entryFrame, mkF, argsToLocals, Value.category]; done)) hw hEL (by decide) ?_
  obtain ⟨Ex, Fc, b, kb, Fv, Ab⟩ := W
  refine aloadN (pc' := 1) d_jdk_42_method_56_0 rfl rfl rfl ?_
  refine call (i := 68) (i2 := 4) (Wd := 0) (pc' := 4) (kVirt (i := 64) (i2 := 65) (i3 := 67) (i4 := 66) (C := "java/lang/String") (a := x) (argsL := []) (S' := []) (Wd := 0) d_jdk_42_method_56_1 rfl rfl rfl rfl Ex (by decide) rfl pd_12 rfl rfl (Nat.le_of_ble_eq_true rfl)) (rm_isl l Z a0 hw hEL n0 x _ Fc hB) rfl rfl (by simp) (by decide) (by decide) (by decide) (by decide) rfl fun v_ h291 P292 sz293 => ?_
  obtain ⟨rfl, e294⟩ := P292
  rw [e294]
  refine at' (ce' := 0) (sl' := 0) (pc' := 4) (L' := #[.val (.ref x), .val (.int (3 : Int32))]) (S' := [(.int (0 : Int32))]) rfl rfl rfl rfl rfl ?_
  refine ifT (pc' := 16) d_jdk_42_method_56_4 (rfl : (0 : Int32) = (0 : Int32)) (by decide) rfl ?_
  refine aloadN (pc' := 17) d_jdk_42_method_56_16 rfl rfl rfl ?_
  refine getfield (i := 29) (pc' := 20) d_jdk_42_method_56_17 rfl Fv rfl ?_
  refine iloadN (pc' := 21) d_jdk_42_method_56_20 rfl rfl ?_
  refine call (i := 71) (i2 := 18) (Wd := 0) (pc' := 24) (kStatic (i := 69) (i2 := 70) (i3 := 18) (i4 := 71) (argsL := [(.ref b), (.int (3 : Int32))]) (S' := []) (Wd := 0) d_jdk_42_method_56_21 rfl rfl rfl rfl (by decide) rfl pd_5 rfl rfl (Nat.le_of_ble_eq_true rfl)) (rm_uch3 l Z a0 hw hEL n0 b kb d0 d1 d2 d3 _ Ab hB hU hk) rfl rfl (by simp) (by decide) (by decide) (by decide) (by decide) rfl fun v_ h295 P296 sz297 => ?_
  obtain ⟨rfl, e298⟩ := P296
  rw [e298]
  refine at' (ce' := 0) (sl' := 0) (pc' := 24) (L' := #[.val (.ref x), .val (.int (3 : Int32))]) (S' := [(.int d3)]) rfl rfl rfl rfl rfl ?_
  exact retI d_jdk_42_method_56_24 rfl (Or.inr (Or.inr (Or.inr (Or.inl rfl)))) (congrArg Value.int (own_nar hk)) (by decide) (by decide) ⟨rfl, rfl⟩
set_option maxRecDepth 65536 in
set_option maxHeartbeats 40000000 in
theorem rm_isd (l : Launch) (Z : State) (a0 : Array Value) (hw : ∀ d ∈ tables_1, d.before a0 Z = true) (hEL : EW Z a0 []) (n0 : Nat) (x : Addr) (d0 d1 d2 d3 : Int32) (f t : Nat) (h : Heap)  (hB : Sets Z) (hU : Us Z) (hd0 : ch d0) (hd1 : ch d1) (hd2 : ch d2) (hd3 : ch d3) (hf : f < 5) (ht : t < 5) (T : Tx Z h x d0 d1 d2 d3) :
    Met l true Z [] n0 (⟨"com/example/lintwork/lintwork/input/AsciiDigits", "isDigits", "(Ljava/lang/CharSequence;II)Z"⟩ : MethodName) prog_34_method_2_code 5 (some .boolean) ({ frames := 5, cells := 0, slots := 0, locals := 84 } : Room) [] #[(.ref x), (.int (Int32.ofNat f)), (.int (Int32.ofNat t))] [] h (fun v h' => (∃ b : Int32, v = some (.int b) ∧ ((b = 1 ∧ (f < t ∧ (∀ j, f ≤ j → j < t → dig ((dl d0 d1 d2 d3).getD j 0)))) ∨ (b = 0 ∧ ¬ (f < t ∧ (∀ j, f ≤ j → j < t → dig ((dl d0 d1 d2 d3).getD j 0)))))) ∧ h' = h) := by
  refine Met.of_body (a0 := a0) (L0 := #[.val (.ref x), .val (.int (Int32.ofNat f)), .val (.int (Int32.ofNat t)), .unset, .unset]) (plainFor_of_name (by first | (simp [plainName, overriddenIn]; done) | decide +kernel)) (fun m => by first | rfl | (simp [entryFrame, mkF, argsToLocals, Value.category]; done)) hw hEL (by decide) ?_
  refine iloadN (pc' := 1) d_prog_34_method_2_0 rfl rfl ?_
  refine iloadN (pc' := 2) d_prog_34_method_2_1 rfl rfl ?_
  refine icmp (pc' := 7) (pcF := 5) d_prog_34_method_2_2 (by decide) rfl rfl (fun (q0 : (Int32.ofNat f) < (Int32.ofNat t)) => ?_) (fun (q0 : ¬ ((Int32.ofNat f) < (Int32.ofNat t))) => ?_)
  · skip
    have ft : f < t := (own_lt f hf t ht).mp q0
    have loop : ∀ r i, i + r = t → f ≤ i → (∀ j, f ≤ j → j < i → dig ((dl d0 d1 d2 d3).getD j 0)) → ∀ c4 : Int32, Wq l true Z [] a0 n0 (⟨"com/example/lintwork/lintwork/input/AsciiDigits", "isDigits", "(Ljava/lang/CharSequence;II)Z"⟩ : MethodName) prog_34_method_2_code 5 (some .boolean) ({ frames := 5, cells := 0, slots := 0, locals := 84 } : Room) h (fun v h' => (∃ b : Int32, v = some (.int b) ∧ ((b = 1 ∧ (f < t ∧ (∀ j, f ≤ j → j < t → dig ((dl d0 d1 d2 d3).getD j 0)))) ∨ (b = 0 ∧ ¬ (f < t ∧ (∀ j, f ≤ j → j < t → dig ((dl d0 d1 d2 d3).getD j 0)))))) ∧ h' = h) [] h 0 0 9 #[.val (.ref x), .val (.int (Int32.ofNat f)), .val (.int (Int32.ofNat t)), .val (.int (Int32.ofNat i)), .val (.int c4)] [] := by
      intro r
      induction r with
      | zero =>
        intro i hr fi hi c4
        obtain rfl : t = i := hr.symm
        refine at' (ce' := 0) (sl' := 0) (pc' := 9) (L' := #[.val (.ref x), .val (.int (Int32.ofNat f)), .val (.int (Int32.ofNat t)), .val (.int (Int32.ofNat t)), .val (.int c4)]) (S' := []) rfl rfl rfl rfl rfl ?_
        refine iloadN (pc' := 10) d_prog_34_method_2_9 rfl rfl ?_
        refine iloadN (pc' := 11) d_prog_34_method_2_10 rfl rfl ?_
        refine icmpT (pc' := 45) d_prog_34_method_2_11 (fun q => absurd ((own_lt _ ht _ ht).mp q) (Nat.lt_irrefl _) : ¬ ((Int32.ofNat t) < (Int32.ofNat t))) (by decide) rfl ?_
        refine iconst (pc' := 46) (v := (1 : Int32)) d_prog_34_method_2_45 rfl rfl ?_
        exact retI d_prog_34_method_2_46 rfl (Or.inr (Or.inl rfl)) rfl (by decide) (by decide) ⟨⟨1, rfl, Or.inl ⟨rfl, ft, hi⟩⟩, rfl⟩
      | succ r ih =>
        intro i hr fi hi c4
        have it : i < t := by omega
        refine iloadN (pc' := 10) d_prog_34_method_2_9 rfl rfl ?_
        refine iloadN (pc' := 11) d_prog_34_method_2_10 rfl rfl ?_
        refine icmpF (pc' := 14) d_prog_34_method_2_11 ((own_lt i (by omega) t ht).mpr it : (Int32.ofNat i) < (Int32.ofNat t)) rfl ?_
        refine aloadN (pc' := 15) d_prog_34_method_2_14 rfl rfl rfl ?_
        refine iloadN (pc' := 16) d_prog_34_method_2_15 rfl rfl ?_
        have J21 : Wq l true Z [] a0 n0 (⟨"com/example/lintwork/lintwork/input/AsciiDigits", "isDigits", "(Ljava/lang/CharSequence;II)Z"⟩ : MethodName) prog_34_method_2_code 5 (some .boolean) ({ frames := 5, cells := 0, slots := 0, locals := 84 } : Room) h (fun v h' => (∃ b : Int32, v = some (.int b) ∧ ((b = 1 ∧ (f < t ∧ (∀ j, f ≤ j → j < t → dig ((dl d0 d1 d2 d3).getD j 0)))) ∨ (b = 0 ∧ ¬ (f < t ∧ (∀ j, f ≤ j → j < t → dig ((dl d0 d1 d2 d3).getD j 0)))))) ∧ h' = h) [] h 0 0 21 #[.val (.ref x), .val (.int (Int32.ofNat f)), .val (.int (Int32.ofNat t)), .val (.int (Int32.ofNat i)), .val (.int c4)] [(.int ((dl d0 d1 d2 d3).getD i 0))] := by
          refine at' (ce' := 0) (sl' := 0) (pc' := 21) (L' := #[.val (.ref x), .val (.int (Int32.ofNat f)), .val (.int (Int32.ofNat t)), .val (.int (Int32.ofNat i)), .val (.int c4)]) (S' := [(.int ((dl d0 d1 d2 d3).getD i 0))]) rfl rfl rfl rfl rfl ?_
          refine istore (pc' := 23) (L' := #[.val (.ref x), .val (.int (Int32.ofNat f)), .val (.int (Int32.ofNat t)), .val (.int (Int32.ofNat i)), .val (.int ((dl d0 d1 d2 d3).getD i 0))]) d_prog_34_method_2_21 rfl rfl ?_
          refine iload (pc' := 25) d_prog_34_method_2_23 rfl rfl ?_
          refine bipush (pc' := 27) (v := (48 : Int32)) d_prog_34_method_2_25 rfl rfl ?_
          refine icmp (pc' := 37) (pcF := 30) d_prog_34_method_2_27 (by decide) rfl rfl (fun (c1 : ((dl d0 d1 d2 d3).getD i 0) < (48 : Int32)) => ?_) (fun (c1 : ¬ (((dl d0 d1 d2 d3).getD i 0) < (48 : Int32))) => ?_)
          · skip
            refine iconst (pc' := 38) (v := (0 : Int32)) d_prog_34_method_2_37 rfl rfl ?_
            exact retI d_prog_34_method_2_38 rfl (Or.inr (Or.inl rfl)) rfl (by decide) (by decide) ⟨⟨0, rfl, Or.inr ⟨rfl, fun q => (q.2 i fi it).1 c1⟩⟩, rfl⟩
          · skip
            refine iload (pc' := 32) d_prog_34_method_2_30 rfl rfl ?_
            refine bipush (pc' := 34) (v := (57 : Int32)) d_prog_34_method_2_32 rfl rfl ?_
            refine icmp (pc' := 39) (pcF := 37) d_prog_34_method_2_34 (by decide) rfl rfl (fun (c2 : ¬ ((57 : Int32) < ((dl d0 d1 d2 d3).getD i 0))) => ?_) (fun (c2 : (57 : Int32) < ((dl d0 d1 d2 d3).getD i 0)) => ?_)
            · skip
              refine iinc (pc' := 42) (v := Int32.ofNat (i + 1)) (L' := #[.val (.ref x), .val (.int (Int32.ofNat f)), .val (.int (Int32.ofNat t)), .val (.int (Int32.ofNat (i + 1))), .val (.int ((dl d0 d1 d2 d3).getD i 0))]) d_prog_34_method_2_39 rfl (own_d1 i (by omega)) rfl rfl ?_
              refine goto (pc' := 9) d_prog_34_method_2_42 (by decide) rfl ?_
              exact ih (i + 1) (by omega) (by omega) (fun j h1 h2 => (Nat.lt_succ_iff_lt_or_eq.mp h2).elim (fun q => hi j h1 q) (fun q => q ▸ ⟨c1, c2⟩)) _
            · skip
              refine iconst (pc' := 38) (v := (0 : Int32)) d_prog_34_method_2_37 rfl rfl ?_
              exact retI d_prog_34_method_2_38 rfl (Or.inr (Or.inl rfl)) rfl (by decide) (by decide) ⟨⟨0, rfl, Or.inr ⟨rfl, fun q => (q.2 i fi it).2 c2⟩⟩, rfl⟩
        rcases T with hS | hW
        · skip
          exact strAt (i := 3) (Wd := 0) (len := 5) (j := i) (c := (dl d0 d1 d2 d3).getD i 0) (pc' := 21) hB (by decide +kernel) rfl (kIface (i := 55) (i2 := 56) (i3 := 57) (i4 := 58) (i5 := 59) (i6 := 60) (i7 := 61) (i8 := 62) (C := "java/lang/String") (a := x) (argsL := [(.int (Int32.ofNat i))]) (S' := []) (Wd := 0) d_prog_34_method_2_16 rfl rfl rfl rfl rfl rfl rfl rfl hS.exa (by decide) rfl pd_13 rfl rfl (Nat.le_of_ble_eq_true rfl)) hS (by show i < 4; omega) rfl rfl (by decide) (by decide) (by decide) (by decide) rfl J21
        · skip
          have hi4 : i = 0 ∨ i = 1 ∨ i = 2 ∨ i = 3 := by omega
          rcases hi4 with rfl | rfl | rfl | rfl
          · skip
            refine at' (ce' := 0) (sl' := 0) (pc' := 16) (L' := #[.val (.ref x), .val (.int (Int32.ofNat f)), .val (.int (Int32.ofNat t)), .val (.int (0 : Int32)), .val (.int c4)]) (S' := [(.int (0 : Int32)), (.ref x)]) rfl rfl rfl rfl rfl ?_
            refine call (i := 63) (i2 := 4) (Wd := 0) (pc' := 21) (kIface (i := 55) (i2 := 56) (i3 := 57) (i4 := 58) (i5 := 59) (i6 := 60) (i7 := 61) (i8 := 62) (C := "java/lang/String") (a := x) (argsL := [(.int (0 : Int32))]) (S' := []) (Wd := 0) d_prog_34_method_2_16 rfl rfl rfl rfl rfl rfl rfl rfl hW.1 (by decide) rfl pd_13 rfl rfl (Nat.le_of_ble_eq_true rfl)) (rm_chU0 l Z a0 hw hEL n0 x d0 d1 d2 d3 _ hB hU hd0 hW) rfl rfl (by simp) (by decide) (by decide) (by decide) (by decide) rfl fun v_ h299 P300 sz301 => ?_
            obtain ⟨rfl, e302⟩ := P300
            rw [e302]
            exact J21
          · skip
            refine at' (ce' := 0) (sl' := 0) (pc' := 16) (L' := #[.val (.ref x), .val (.int (Int32.ofNat f)), .val (.int (Int32.ofNat t)), .val (.int (1 : Int32)), .val (.int c4)]) (S' := [(.int (1 : Int32)), (.ref x)]) rfl rfl rfl rfl rfl ?_
            refine call (i := 63) (i2 := 4) (Wd := 0) (pc' := 21) (kIface (i := 55) (i2 := 56) (i3 := 57) (i4 := 58) (i5 := 59) (i6 := 60) (i7 := 61) (i8 := 62) (C := "java/lang/String") (a := x) (argsL := [(.int (1 : Int32))]) (S' := []) (Wd := 0) d_prog_34_method_2_16 rfl rfl rfl rfl rfl rfl rfl rfl hW.1 (by decide) rfl pd_13 rfl rfl (Nat.le_of_ble_eq_true rfl)) (rm_chU1 l Z a0 hw hEL n0 x d0 d1 d2 d3 _ hB hU hd1 hW) rfl rfl (by simp) (by decide) (by decide) (by decide) (by decide) rfl fun v_ h303 P304 sz305 => ?_
            obtain ⟨rfl, e306⟩ := P304
            rw [e306]
            exact J21
          · skip
            refine at' (ce' := 0) (sl' := 0) (pc' := 16) (L' := #[.val (.ref x), .val (.int (Int32.ofNat f)), .val (.int (Int32.ofNat t)), .val (.int (2 : Int32)), .val (.int c4)]) (S' := [(.int (2 : Int32)), (.ref x)]) rfl rfl rfl rfl rfl ?_
            refine call (i := 63) (i2 := 4) (Wd := 0) (pc' := 21) (kIface (i := 55) (i2 := 56) (i3 := 57) (i4 := 58) (i5 := 59) (i6 := 60) (i7 := 61) (i8 := 62) (C := "java/lang/String") (a := x) (argsL := [(.int (2 : Int32))]) (S' := []) (Wd := 0) d_prog_34_method_2_16 rfl rfl rfl rfl rfl rfl rfl rfl hW.1 (by decide) rfl pd_13 rfl rfl (Nat.le_of_ble_eq_true rfl)) (rm_chU2 l Z a0 hw hEL n0 x d0 d1 d2 d3 _ hB hU hd2 hW) rfl rfl (by simp) (by decide) (by decide) (by decide) (by decide) rfl fun v_ h307 P308 sz309 => ?_
            obtain ⟨rfl, e310⟩ := P308
            rw [e310]
            exact J21
          · skip
            refine at' (ce' := 0) (sl' := 0) (pc' := 16) (L' := #[.val (.ref x), .val (.int (Int32.ofNat f)), .val (.int (Int32.ofNat t)), .val (.int (3 : Int32)), .val (.int c4)]) (S' := [(.int (3 : Int32)), (.ref x)]) rfl rfl rfl rfl rfl ?_
            refine call (i := 63) (i2 := 4) (Wd := 0) (pc' := 21) (kIface (i := 55) (i2 := 56) (i3 := 57) (i4 := 58) (i5 := 59) (i6 := 60) (i7 := 61) (i8 := 62) (C := "java/lang/String") (a := x) (argsL := [(.int (3 : Int32))]) (S' := []) (Wd := 0) d_prog_34_method_2_16 rfl rfl rfl rfl rfl rfl rfl rfl hW.1 (by decide) rfl pd_13 rfl rfl (Nat.le_of_ble_eq_true rfl)) (rm_chU3 l Z a0 hw hEL n0 x d0 d1 d2 d3 _ hB hU hd3 hW) rfl rfl (by simp) (by decide) (by decide) (by decide) (by decide) rfl fun v_ h311 P312 sz313 => ?_
            obtain ⟨rfl, e314⟩ := P312
            rw [e314]
            exact J21
    refine iloadN (pc' := 8) d_prog_34_method_2_7 rfl rfl ?_
    refine istoreN (pc' := 9) (L' := #[.val (.ref x), .val (.int (Int32.ofNat f)), .val (.int (Int32.ofNat t)), .val (.int (Int32.ofNat f)), .unset]) d_prog_34_method_2_8 rfl rfl ?_
    obtain ⟨i, ei⟩ : ∃ i, i = f := ⟨_, rfl⟩
    have fi : f ≤ i := by omega
    have it : i < t := by omega
    have hi : ∀ j, f ≤ j → j < i → dig ((dl d0 d1 d2 d3).getD j 0) := fun j h1 h2 => absurd h1 (by omega)
    refine at' (ce' := 0) (sl' := 0) (pc' := 9) (L' := #[.val (.ref x), .val (.int (Int32.ofNat f)), .val (.int (Int32.ofNat t)), .val (.int (Int32.ofNat i)), .unset]) (S' := []) rfl rfl rfl (by rw [ei]) rfl ?_
    refine iloadN (pc' := 10) d_prog_34_method_2_9 rfl rfl ?_
    refine iloadN (pc' := 11) d_prog_34_method_2_10 rfl rfl ?_
    refine icmpF (pc' := 14) d_prog_34_method_2_11 ((own_lt i (by omega) t ht).mpr it : (Int32.ofNat i) < (Int32.ofNat t)) rfl ?_
    refine aloadN (pc' := 15) d_prog_34_method_2_14 rfl rfl rfl ?_
    refine iloadN (pc' := 16) d_prog_34_method_2_15 rfl rfl ?_
    have J21 : Wq l true Z [] a0 n0 (⟨"com/example/lintwork/lintwork/input/AsciiDigits", "isDigits", "(Ljava/lang/CharSequence;II)Z"⟩ : MethodName) prog_34_method_2_code 5 (some .boolean) ({ frames := 5, cells := 0, slots := 0, locals := 84 } : Room) h (fun v h' => (∃ b : Int32, v = some (.int b) ∧ ((b = 1 ∧ (f < t ∧ (∀ j, f ≤ j → j < t → dig ((dl d0 d1 d2 d3).getD j 0)))) ∨ (b = 0 ∧ ¬ (f < t ∧ (∀ j, f ≤ j → j < t → dig ((dl d0 d1 d2 d3).getD j 0)))))) ∧ h' = h) [] h 0 0 21 #[.val (.ref x), .val (.int (Int32.ofNat f)), .val (.int (Int32.ofNat t)), .val (.int (Int32.ofNat i)), .unset] [(.int ((dl d0 d1 d2 d3).getD i 0))] := by
      refine at' (ce' := 0) (sl' := 0) (pc' := 21) (L' := #[.val (.ref x), .val (.int (Int32.ofNat f)), .val (.int (Int32.ofNat t)), .val (.int (Int32.ofNat i)), .unset]) (S' := [(.int ((dl d0 d1 d2 d3).getD i 0))]) rfl rfl rfl rfl rfl ?_
      refine istore (pc' := 23) (L' := #[.val (.ref x), .val (.int (Int32.ofNat f)), .val (.int (Int32.ofNat t)), .val (.int (Int32.ofNat i)), .val (.int ((dl d0 d1 d2 d3).getD i 0))]) d_prog_34_method_2_21 rfl rfl ?_
      refine iload (pc' := 25) d_prog_34_method_2_23 rfl rfl ?_
      refine bipush (pc' := 27) (v := (48 : Int32)) d_prog_34_method_2_25 rfl rfl ?_
      refine icmp (pc' := 37) (pcF := 30) d_prog_34_method_2_27 (by decide) rfl rfl (fun (c1 : ((dl d0 d1 d2 d3).getD i 0) < (48 : Int32)) => ?_) (fun (c1 : ¬ (((dl d0 d1 d2 d3).getD i 0) < (48 : Int32))) => ?_)
      · skip
        refine iconst (pc' := 38) (v := (0 : Int32)) d_prog_34_method_2_37 rfl rfl ?_
        exact retI d_prog_34_method_2_38 rfl (Or.inr (Or.inl rfl)) rfl (by decide) (by decide) ⟨⟨0, rfl, Or.inr ⟨rfl, fun q => (q.2 i fi it).1 c1⟩⟩, rfl⟩
      · skip
        refine iload (pc' := 32) d_prog_34_method_2_30 rfl rfl ?_
        refine bipush (pc' := 34) (v := (57 : Int32)) d_prog_34_method_2_32 rfl rfl ?_
        refine icmp (pc' := 39) (pcF := 37) d_prog_34_method_2_34 (by decide) rfl rfl (fun (c2 : ¬ ((57 : Int32) < ((dl d0 d1 d2 d3).getD i 0))) => ?_) (fun (c2 : (57 : Int32) < ((dl d0 d1 d2 d3).getD i 0)) => ?_)
        · skip
          refine iinc (pc' := 42) (v := Int32.ofNat (i + 1)) (L' := #[.val (.ref x), .val (.int (Int32.ofNat f)), .val (.int (Int32.ofNat t)), .val (.int (Int32.ofNat (i + 1))), .val (.int ((dl d0 d1 d2 d3).getD i 0))]) d_prog_34_method_2_39 rfl (own_d1 i (by omega)) rfl rfl ?_
          refine goto (pc' := 9) d_prog_34_method_2_42 (by decide) rfl ?_
          exact loop (t - (i + 1)) (i + 1) (by omega) (by omega) (fun j h1 h2 => (Nat.lt_succ_iff_lt_or_eq.mp h2).elim (fun q => hi j h1 q) (fun q => q ▸ ⟨c1, c2⟩)) _
        · skip
          refine iconst (pc' := 38) (v := (0 : Int32)) d_prog_34_method_2_37 rfl rfl ?_
          exact retI d_prog_34_method_2_38 rfl (Or.inr (Or.inl rfl)) rfl (by decide) (by decide) ⟨⟨0, rfl, Or.inr ⟨rfl, fun q => (q.2 i fi it).2 c2⟩⟩, rfl⟩
    rcases T with hS | hW
    · skip
      exact strAt (i := 3) (Wd := 0) (len := 5) (j := i) (c := (dl d0 d1 d2 d3).getD i 0) (pc' := 21) hB (by decide +kernel) rfl (kIface (i := 55) (i2 := 56) (i3 := 57) (i4 := 58) (i5 := 59) (i6 := 60) (i7 := 61) (i8 := 62) (C := "java/lang/String") (a := x) (argsL := [(.int (Int32.ofNat i))]) (S' := []) (Wd := 0) d_prog_34_method_2_16 rfl rfl rfl rfl rfl rfl rfl rfl hS.exa (by decide) rfl pd_13 rfl rfl (Nat.le_of_ble_eq_true rfl)) hS (by show i < 4; omega) rfl rfl (by decide) (by decide) (by decide) (by decide) rfl J21
    · skip
      have hi4 : i = 0 ∨ i = 1 ∨ i = 2 ∨ i = 3 := by omega
      rcases hi4 with rfl | rfl | rfl | rfl
      · skip
        refine at' (ce' := 0) (sl' := 0) (pc' := 16) (L' := #[.val (.ref x), .val (.int (Int32.ofNat f)), .val (.int (Int32.ofNat t)), .val (.int (0 : Int32)), .unset]) (S' := [(.int (0 : Int32)), (.ref x)]) rfl rfl rfl rfl rfl ?_
        refine call (i := 63) (i2 := 4) (Wd := 0) (pc' := 21) (kIface (i := 55) (i2 := 56) (i3 := 57) (i4 := 58) (i5 := 59) (i6 := 60) (i7 := 61) (i8 := 62) (C := "java/lang/String") (a := x) (argsL := [(.int (0 : Int32))]) (S' := []) (Wd := 0) d_prog_34_method_2_16 rfl rfl rfl rfl rfl rfl rfl rfl hW.1 (by decide) rfl pd_13 rfl rfl (Nat.le_of_ble_eq_true rfl)) (rm_chU0 l Z a0 hw hEL n0 x d0 d1 d2 d3 _ hB hU hd0 hW) rfl rfl (by simp) (by decide) (by decide) (by decide) (by decide) rfl fun v_ h315 P316 sz317 => ?_
        obtain ⟨rfl, e318⟩ := P316
        rw [e318]
        exact J21
      · skip
        refine at' (ce' := 0) (sl' := 0) (pc' := 16) (L' := #[.val (.ref x), .val (.int (Int32.ofNat f)), .val (.int (Int32.ofNat t)), .val (.int (1 : Int32)), .unset]) (S' := [(.int (1 : Int32)), (.ref x)]) rfl rfl rfl rfl rfl ?_
        refine call (i := 63) (i2 := 4) (Wd := 0) (pc' := 21) (kIface (i := 55) (i2 := 56) (i3 := 57) (i4 := 58) (i5 := 59) (i6 := 60) (i7 := 61) (i8 := 62) (C := "java/lang/String") (a := x) (argsL := [(.int (1 : Int32))]) (S' := []) (Wd := 0) d_prog_34_method_2_16 rfl rfl rfl rfl rfl rfl rfl rfl hW.1 (by decide) rfl pd_13 rfl rfl (Nat.le_of_ble_eq_true rfl)) (rm_chU1 l Z a0 hw hEL n0 x d0 d1 d2 d3 _ hB hU hd1 hW) rfl rfl (by simp) (by decide) (by decide) (by decide) (by decide) rfl fun v_ h319 P320 sz321 => ?_
        obtain ⟨rfl, e322⟩ := P320
        rw [e322]
        exact J21
      · skip
        refine at' (ce' := 0) (sl' := 0) (pc' := 16) (L' := #[.val (.ref x), .val (.int (Int32.ofNat f)), .val (.int (Int32.ofNat t)), .val (.int (2 : Int32)), .unset]) (S' := [(.int (2 : Int32)), (.ref x)]) rfl rfl rfl rfl rfl ?_
        refine call (i := 63) (i2 := 4) (Wd := 0) (pc' := 21) (kIface (i := 55) (i2 := 56) (i3 := 57) (i4 := 58) (i5 := 59) (i6 := 60) (i7 := 61) (i8 := 62) (C := "java/lang/String") (a := x) (argsL := [(.int (2 : Int32))]) (S' := []) (Wd := 0) d_prog_34_method_2_16 rfl rfl rfl rfl rfl rfl rfl rfl hW.1 (by decide) rfl pd_13 rfl rfl (Nat.le_of_ble_eq_true rfl)) (rm_chU2 l Z a0 hw hEL n0 x d0 d1 d2 d3 _ hB hU hd2 hW) rfl rfl (by simp) (by decide) (by decide) (by decide) (by decide) rfl fun v_ h323 P324 sz325 => ?_
        obtain ⟨rfl, e326⟩ := P324
        rw [e326]
        exact J21
      · skip
        refine at' (ce' := 0) (sl' := 0) (pc' := 16) (L' := #[.val (.ref x), .val (.int (Int32.ofNat f)), .val (.int (Int32.ofNat t)), .val (.int (3 : Int32)), .unset]) (S' := [(.int (3 : Int32)), (.ref x)]) rfl rfl rfl rfl rfl ?_
        refine call (i := 63) (i2 := 4) (Wd := 0) (pc' := 21) (kIface (i := 55) (i2 := 56) (i3 := 57) (i4 := 58) (i5 := 59) (i6 := 60) (i7 := 61) (i8 := 62) (C := "java/lang/String") (a := x) (argsL := [(.int (3 : Int32))]) (S' := []) (Wd := 0) d_prog_34_method_2_16 rfl rfl rfl rfl rfl rfl rfl rfl hW.1 (by decide) rfl pd_13 rfl rfl (Nat.le_of_ble_eq_true rfl)) (rm_chU3 l Z a0 hw hEL n0 x d0 d1 d2 d3 _ hB hU hd3 hW) rfl rfl (by simp) (by decide) (by decide) (by decide) (by decide) rfl fun v_ h327 P328 sz329 => ?_
        obtain ⟨rfl, e330⟩ := P328
        rw [e330]
        exact J21
  · skip
    refine iconst (pc' := 6) (v := (0 : Int32)) d_prog_34_method_2_5 rfl rfl ?_
    exact retI d_prog_34_method_2_6 rfl (Or.inr (Or.inl rfl)) rfl (by decide) (by decide) ⟨⟨0, rfl, Or.inr ⟨rfl, fun q => q0 ((own_lt f hf t ht).mpr q.1)⟩⟩, rfl⟩
set_option maxRecDepth 65536 in
set_option maxHeartbeats 40000000 in
theorem rm_adg (l : Launch) (Z : State) (a0 : Array Value) (hw : ∀ d ∈ tables_1, d.before a0 Z = true) (hEL : EW Z a0 []) (n0 : Nat) (c : Int32) (h : Heap)  (hc : ch c) :
    Met l true Z [] n0 (⟨"com/example/lintwork/lintwork/input/AsciiDigitsIsDigitsPinLaw", "asciiDigit", "(C)Z"⟩ : MethodName) method_3_code 2 (some .boolean) ({ frames := 0, cells := 0, slots := 0, locals := 0 } : Room) [] #[(.int c)] [] h (fun v h' => (∃ b : Int32, v = some (.int b) ∧ ((b = 1 ∧ dig c) ∨ (b = 0 ∧ ¬ dig c))) ∧ h' = h) := by
  refine Met.of_body (a0 := a0) (L0 := #[.val (.int c), .unset]) (plainFor_of_name (by first | (simp [plainName, overriddenIn]; done) | decide +kernel)) (fun m => by first | rfl | (simp [entryFrame, mkF, argsToLocals, Value.category]; done)) hw hEL (by decide) ?_
  refine iloadN (pc' := 1) d_method_3_0 rfl rfl ?_
  refine bipush (pc' := 3) (v := (48 : Int32)) d_method_3_1 rfl rfl ?_
  refine isub (pc' := 4) d_method_3_3 rfl ?_
  refine istoreN (pc' := 5) (L' := #[.val (.int c), .val (.int (c - (48 : Int32)))]) d_method_3_4 rfl rfl ?_
  refine iloadN (pc' := 6) d_method_3_5 rfl rfl ?_
  refine ifc (pc' := 19) (pcF := 9) d_method_3_6 (by decide) rfl rfl (fun (c1 : (c - (48 : Int32)) < (0 : Int32)) => ?_) (fun (c1 : ¬ ((c - (48 : Int32)) < (0 : Int32))) => ?_)
  · skip
    refine iconst (pc' := 20) (v := (0 : Int32)) d_method_3_19 rfl rfl ?_
    exact retI d_method_3_20 rfl (Or.inr (Or.inl rfl)) rfl (by decide) (by decide) ⟨⟨0, rfl, Or.inr ⟨rfl, fun q => ((dig_iff hc).mp q).1 c1⟩⟩, rfl⟩
  · skip
    refine iloadN (pc' := 10) d_method_3_9 rfl rfl ?_
    refine bipush (pc' := 12) (v := (10 : Int32)) d_method_3_10 rfl rfl ?_
    refine icmp (pc' := 19) (pcF := 15) d_method_3_12 (by decide) rfl rfl (fun (c2 : ¬ ((c - (48 : Int32)) < (10 : Int32))) => ?_) (fun (c2 : (c - (48 : Int32)) < (10 : Int32)) => ?_)
    · skip
      refine iconst (pc' := 20) (v := (0 : Int32)) d_method_3_19 rfl rfl ?_
      exact retI d_method_3_20 rfl (Or.inr (Or.inl rfl)) rfl (by decide) (by decide) ⟨⟨0, rfl, Or.inr ⟨rfl, fun q => c2 ((dig_iff hc).mp q).2⟩⟩, rfl⟩
    · skip
      refine iconst (pc' := 16) (v := (1 : Int32)) d_method_3_15 rfl rfl ?_
      refine goto (pc' := 20) d_method_3_16 (by decide) rfl ?_
      exact retI d_method_3_20 rfl (Or.inr (Or.inl rfl)) rfl (by decide) (by decide) ⟨⟨1, rfl, Or.inl ⟨rfl, (dig_iff hc).mpr ⟨c1, c2⟩⟩⟩, rfl⟩
set_option maxRecDepth 65536 in
set_option maxHeartbeats 40000000 in
theorem rm_fits (l : Launch) (Z : State) (a0 : Array Value) (hw : ∀ d ∈ tables_1, d.before a0 Z = true) (hEL : EW Z a0 []) (n0 : Nat) (c : Int32) (i f t : Nat) (h : Heap)  (hc : ch c) (hi : i < 5) (hf : f < 5) (ht : t < 5) :
    Met l true Z [] n0 (⟨"com/example/lintwork/lintwork/input/AsciiDigitsIsDigitsPinLaw", "fits", "(CIII)Z"⟩ : MethodName) method_4_code 4 (some .boolean) ({ frames := 1, cells := 0, slots := 0, locals := 14 } : Room) [] #[(.int c), (.int (Int32.ofNat i)), (.int (Int32.ofNat f)), (.int (Int32.ofNat t))] [] h (fun v h' => (∃ b : Int32, v = some (.int b) ∧ ((b = 1 ∧ (f ≤ i → i < t → dig c)) ∨ (b = 0 ∧ ¬ (f ≤ i → i < t → dig c)))) ∧ h' = h) := by
  refine Met.of_body (a0 := a0) (L0 := #[.val (.int c), .val (.int (Int32.ofNat i)), .val (.int (Int32.ofNat f)), .val (.int (Int32.ofNat t))]) (plainFor_of_name (by first | (simp [plainName, overriddenIn]; done) | decide +kernel)) (fun m => by first | rfl | (simp [entryFrame, mkF, argsToLocals, Value.category]; done)) hw hEL (by decide) ?_
  refine iloadN (pc' := 1) d_method_4_0 rfl rfl ?_
  refine iloadN (pc' := 2) d_method_4_1 rfl rfl ?_
  refine icmp (pc' := 7) (pcF := 5) d_method_4_2 (by decide) rfl rfl (fun (c1 : ¬ ((Int32.ofNat i) < (Int32.ofNat f))) => ?_) (fun (c1 : (Int32.ofNat i) < (Int32.ofNat f)) => ?_)
  · skip
    refine iloadN (pc' := 8) d_method_4_7 rfl rfl ?_
    refine iloadN (pc' := 9) d_method_4_8 rfl rfl ?_
    refine icmp (pc' := 14) (pcF := 12) d_method_4_9 (by decide) rfl rfl (fun (c2 : (Int32.ofNat i) < (Int32.ofNat t)) => ?_) (fun (c2 : ¬ ((Int32.ofNat i) < (Int32.ofNat t))) => ?_)
    · skip
      refine iloadN (pc' := 15) d_method_4_14 rfl rfl ?_
      refine call (i := 92) (i2 := 88) (Wd := 0) (pc' := 18) (kStatic (i := 90) (i2 := 91) (i3 := 88) (i4 := 92) (argsL := [(.int c)]) (S' := []) (Wd := 0) d_method_4_15 rfl rfl rfl rfl (by decide) rfl pd_14 rfl rfl (Nat.le_of_ble_eq_true rfl)) (rm_adg l Z a0 hw hEL n0 c _ hc) rfl rfl (by simp) (by decide) (by decide) (by decide) (by decide) rfl fun v_ h331 P332 sz333 => ?_
      obtain ⟨⟨b, rfl, hb⟩, e334⟩ := P332
      rw [e334]
      refine at' (ce' := 0) (sl' := 0) (pc' := 18) (L' := #[.val (.int c), .val (.int (Int32.ofNat i)), .val (.int (Int32.ofNat f)), .val (.int (Int32.ofNat t))]) (S' := [(.int b)]) rfl rfl rfl rfl rfl ?_
      refine retI d_method_4_18 rfl (Or.inr (Or.inl rfl)) (by rcases hb with ⟨rfl, -⟩ | ⟨rfl, -⟩ <;> rfl) (by decide) (by decide) ⟨⟨b, rfl, ?_⟩, rfl⟩
      exact hb.imp (fun q => ⟨q.1, fun _ _ => q.2⟩) (fun q => ⟨q.1, fun r => q.2 (r (Nat.le_of_not_lt fun z => c1 ((own_lt i hi f hf).mpr z)) ((own_lt i hi t ht).mp c2))⟩)
    · skip
      refine iconst (pc' := 13) (v := (1 : Int32)) d_method_4_12 rfl rfl ?_
      exact retI d_method_4_13 rfl (Or.inr (Or.inl rfl)) rfl (by decide) (by decide) ⟨⟨1, rfl, Or.inl ⟨rfl, fun _ q => absurd ((own_lt i hi t ht).mpr q) c2⟩⟩, rfl⟩
  · skip
    refine iconst (pc' := 6) (v := (1 : Int32)) d_method_4_5 rfl rfl ?_
    exact retI d_method_4_6 rfl (Or.inr (Or.inl rfl)) rfl (by decide) (by decide) ⟨⟨1, rfl, Or.inl ⟨rfl, fun q _ => absurd ((own_lt i hi f hf).mp c1) (Nat.not_lt.mpr q)⟩⟩, rfl⟩
set_option maxRecDepth 65536 in
set_option maxHeartbeats 40000000 in
theorem law_met (l : Launch) (Z : State) (a0 : Array Value) (hw : ∀ d ∈ tables_1, d.before a0 Z = true) (hEL : EW Z a0 []) (n0 : Nat) (i0 i1 i2 : Int32) (h : Heap)  (hB : Sets Z) (hU : Us Z) :
    Met l true Z [] n0 x code maxLocals ret room_1 tables_1 #[(.int i0), (.int i1), (.int i2)] [] h (fun v h' => v = some (.int 1)) := by
  refine Met.of_body (a0 := a0) (L0 := #[.val (.int i0), .val (.int i1), .val (.int i2), .unset, .unset, .unset, .unset, .unset, .unset]) (plainFor_of_name (by first | (simp [plainName, overriddenIn]; done) | decide +kernel)) (fun m => by first | (simp [entryFrame, mkF, argsToLocals, Value.category, maxLocals]; done) | rfl) hw hEL (by decide) ?_
  have J50 : ∀ (hh : Heap) (sx s : Addr) (ks : ClassId) (dv : Value) (d0 d1 d2 d3 : Int32), ch d0 → ch d1 → ch d2 → ch d3 → Arv Z hh s ks .char (4 : Int32) [.int d0, .int d1, .int d2, .int d3] dv → Tx Z hh sx d0 d1 d2 d3 → Wq l true Z [] a0 n0 x code maxLocals ret room_1 h (fun v h' => v = some (.int 1)) [] hh 4 20 50 #[.val (.int i0), .val (.int i1), .val (.int i2), .val (.ref s), .unset, .unset, .unset, .unset, .unset] [(.ref sx)] := by
    intro hh sx s ks dv d0 d1 d2 d3 hd0 hd1 hd2 hd3 As T
    refine astore (pc' := 52) (L' := #[.val (.int i0), .val (.int i1), .val (.int i2), .val (.ref s), .val (.ref sx), .unset, .unset, .unset, .unset]) at_50 rfl rfl rfl ?_
    refine iloadN (pc' := 53) at_52 rfl rfl ?_
    refine ldcInt (i := 31) (v := (2147483647 : Int32)) (pc' := 55) at_53 rfl rfl ?_
    refine iand (pc' := 56) at_55 rfl ?_
    refine iconst (pc' := 57) (v := (5 : Int32)) at_56 rfl rfl ?_
    refine irem (pc' := 58) at_57 (by decide) rfl ?_
    obtain ⟨f, hf, ef⟩ := own_rem (x := (i2 &&& (2147483647 : Int32))) (c_and _ _ (by decide)).1
    rw [ef]
    refine istore (pc' := 60) (L' := #[.val (.int i0), .val (.int i1), .val (.int i2), .val (.ref s), .val (.ref sx), .val (.int (Int32.ofNat f)), .unset, .unset, .unset]) at_58 rfl rfl ?_
    refine iloadN (pc' := 61) at_60 rfl rfl ?_
    refine bipush (pc' := 63) (v := (8 : Int32)) at_61 rfl rfl ?_
    refine iushr (pc' := 64) at_63 rfl ?_
    refine ldcInt (i := 31) (v := (2147483647 : Int32)) (pc' := 66) at_64 rfl rfl ?_
    refine iand (pc' := 67) at_66 rfl ?_
    refine iconst (pc' := 68) (v := (5 : Int32)) at_67 rfl rfl ?_
    refine irem (pc' := 69) at_68 (by decide) rfl ?_
    obtain ⟨t, ht, et⟩ := own_rem (x := (((i2.toUInt32 >>> ((8 : Int32) &&& 31).toUInt32).toInt32) &&& (2147483647 : Int32))) (c_and _ _ (by decide)).1
    rw [et]
    refine istore (pc' := 71) (L' := #[.val (.int i0), .val (.int i1), .val (.int i2), .val (.ref s), .val (.ref sx), .val (.int (Int32.ofNat f)), .val (.int (Int32.ofNat t)), .unset, .unset]) at_69 rfl rfl ?_
    refine aload (pc' := 73) at_71 rfl rfl rfl ?_
    refine iload (pc' := 75) at_73 rfl rfl ?_
    refine iload (pc' := 77) at_75 rfl rfl ?_
    refine call (i := 35) (i2 := 34) (Wd := 0) (pc' := 80) (kStatic (i := 32) (i2 := 33) (i3 := 34) (i4 := 35) (argsL := [(.ref sx), (.int (Int32.ofNat f)), (.int (Int32.ofNat t))]) (S' := []) (Wd := 0) at_77 rfl rfl rfl rfl (by decide) rfl pd_15 rfl rfl (Nat.le_of_ble_eq_true rfl)) (rm_isd l Z a0 hw hEL n0 sx d0 d1 d2 d3 f t _ hB hU hd0 hd1 hd2 hd3 hf ht T) rfl rfl (by simp) (by decide) (by decide) (by decide) (by decide) rfl fun v_ h335 P336 sz337 => ?_
    obtain ⟨⟨b, rfl, hb⟩, e338⟩ := P336
    rw [e338]
    refine at' (ce' := 4) (sl' := 20) (pc' := 80) (L' := #[.val (.int i0), .val (.int i1), .val (.int i2), .val (.ref s), .val (.ref sx), .val (.int (Int32.ofNat f)), .val (.int (Int32.ofNat t)), .unset, .unset]) (S' := [(.int b)]) rfl rfl rfl rfl rfl ?_
    refine istore (pc' := 82) (L' := #[.val (.int i0), .val (.int i1), .val (.int i2), .val (.ref s), .val (.ref sx), .val (.int (Int32.ofNat f)), .val (.int (Int32.ofNat t)), .val (.int b), .unset]) at_80 rfl rfl ?_
    have J150 : ∀ e : Int32, b = e → Wq l true Z [] a0 n0 x code maxLocals ret room_1 h (fun v h' => v = some (.int 1)) [] hh 4 20 150 #[.val (.int i0), .val (.int i1), .val (.int i2), .val (.ref s), .val (.ref sx), .val (.int (Int32.ofNat f)), .val (.int (Int32.ofNat t)), .val (.int b), .unset] [(.int e)] := by
      intro e be
      refine istore (pc' := 152) (L' := #[.val (.int i0), .val (.int i1), .val (.int i2), .val (.ref s), .val (.ref sx), .val (.int (Int32.ofNat f)), .val (.int (Int32.ofNat t)), .val (.int b), .val (.int e)]) at_150 rfl rfl ?_
      refine iload (pc' := 154) at_152 rfl rfl ?_
      refine iload (pc' := 156) at_154 rfl rfl ?_
      refine icmpF (pc' := 159) at_156 (be : b = e) rfl ?_
      refine iconst (pc' := 160) (v := (1 : Int32)) at_159 rfl rfl ?_
      refine goto (pc' := 164) at_160 (by decide) rfl ?_
      exact retI at_164 rfl (Or.inr (Or.inl rfl)) rfl (by decide) (by decide) rfl
    refine iload (pc' := 84) at_82 rfl rfl ?_
    refine iload (pc' := 86) at_84 rfl rfl ?_
    refine icmp (pc' := 149) (pcF := 89) at_86 (by decide) rfl rfl (fun (c0 : ¬ ((Int32.ofNat f) < (Int32.ofNat t))) => ?_) (fun (c0 : (Int32.ofNat f) < (Int32.ofNat t)) => ?_)
    · skip
      refine iconst (pc' := 150) (v := (0 : Int32)) at_149 rfl rfl ?_
      exact J150 _ (hb.elim (fun q => absurd q.2 (fun q => c0 ((own_lt f hf t ht).mpr q.1))) (fun q => q.1))
    · skip
      refine aloadN (pc' := 90) at_89 rfl rfl rfl ?_
      refine iconst (pc' := 91) (v := (0 : Int32)) at_90 rfl rfl ?_
      refine caload (v := .int d0) (pc' := 92) at_91 As ⟨by decide, by decide⟩ rfl rfl ?_
      refine iconst (pc' := 93) (v := (0 : Int32)) at_92 rfl rfl ?_
      refine iload (pc' := 95) at_93 rfl rfl ?_
      refine iload (pc' := 97) at_95 rfl rfl ?_
      refine call (i := 89) (i2 := 88) (Wd := 0) (pc' := 100) (kStatic (i := 86) (i2 := 87) (i3 := 88) (i4 := 89) (argsL := [(.int d0), (.int (0 : Int32)), (.int (Int32.ofNat f)), (.int (Int32.ofNat t))]) (S' := []) (Wd := 0) at_97 rfl rfl rfl rfl (by decide) rfl pd_16 rfl rfl (Nat.le_of_ble_eq_true rfl)) (rm_fits l Z a0 hw hEL n0 d0 0 f t _ hd0 (by decide) hf ht) rfl rfl (by simp) (by decide) (by decide) (by decide) (by decide) rfl fun v_ h339 P340 sz341 => ?_
      obtain ⟨⟨b0, rfl, hb0⟩, e342⟩ := P340
      rw [e342]
      refine at' (ce' := 4) (sl' := 20) (pc' := 100) (L' := #[.val (.int i0), .val (.int i1), .val (.int i2), .val (.ref s), .val (.ref sx), .val (.int (Int32.ofNat f)), .val (.int (Int32.ofNat t)), .val (.int b), .unset]) (S' := [(.int b0)]) rfl rfl rfl rfl rfl ?_
      refine ifc (pc' := 149) (pcF := 103) at_100 (by decide) rfl rfl (fun (z0 : b0 = (0 : Int32)) => ?_) (fun (z0 : ¬ (b0 = (0 : Int32))) => ?_)
      · skip
        refine iconst (pc' := 150) (v := (0 : Int32)) at_149 rfl rfl ?_
        exact J150 _ (hb.elim (fun q => absurd q.2 (fun q => hb0.elim (fun r => absurd (r.1.symm.trans z0) (by decide)) (fun r => r.2 (fun h1 h2 => q.2 0 h1 h2)))) (fun q => q.1))
      · skip
        refine aloadN (pc' := 104) at_103 rfl rfl rfl ?_
        refine iconst (pc' := 105) (v := (1 : Int32)) at_104 rfl rfl ?_
        refine caload (v := .int d1) (pc' := 106) at_105 As ⟨by decide, by decide⟩ rfl rfl ?_
        refine iconst (pc' := 107) (v := (1 : Int32)) at_106 rfl rfl ?_
        refine iload (pc' := 109) at_107 rfl rfl ?_
        refine iload (pc' := 111) at_109 rfl rfl ?_
        refine call (i := 89) (i2 := 88) (Wd := 0) (pc' := 114) (kStatic (i := 86) (i2 := 87) (i3 := 88) (i4 := 89) (argsL := [(.int d1), (.int (1 : Int32)), (.int (Int32.ofNat f)), (.int (Int32.ofNat t))]) (S' := []) (Wd := 0) at_111 rfl rfl rfl rfl (by decide) rfl pd_16 rfl rfl (Nat.le_of_ble_eq_true rfl)) (rm_fits l Z a0 hw hEL n0 d1 1 f t _ hd1 (by decide) hf ht) rfl rfl (by simp) (by decide) (by decide) (by decide) (by decide) rfl fun v_ h343 P344 sz345 => ?_
        obtain ⟨⟨b1, rfl, hb1⟩, e346⟩ := P344
        rw [e346]
        refine at' (ce' := 4) (sl' := 20) (pc' := 114) (L' := #[.val (.int i0), .val (.int i1), .val (.int i2), .val (.ref s), .val (.ref sx), .val (.int (Int32.ofNat f)), .val (.int (Int32.ofNat t)), .val (.int b), .unset]) (S' := [(.int b1)]) rfl rfl rfl rfl rfl ?_
        refine ifc (pc' := 149) (pcF := 117) at_114 (by decide) rfl rfl (fun (z1 : b1 = (0 : Int32)) => ?_) (fun (z1 : ¬ (b1 = (0 : Int32))) => ?_)
        · skip
          refine iconst (pc' := 150) (v := (0 : Int32)) at_149 rfl rfl ?_
          exact J150 _ (hb.elim (fun q => absurd q.2 (fun q => hb1.elim (fun r => absurd (r.1.symm.trans z1) (by decide)) (fun r => r.2 (fun h1 h2 => q.2 1 h1 h2)))) (fun q => q.1))
        · skip
          refine aloadN (pc' := 118) at_117 rfl rfl rfl ?_
          refine iconst (pc' := 119) (v := (2 : Int32)) at_118 rfl rfl ?_
          refine caload (v := .int d2) (pc' := 120) at_119 As ⟨by decide, by decide⟩ rfl rfl ?_
          refine iconst (pc' := 121) (v := (2 : Int32)) at_120 rfl rfl ?_
          refine iload (pc' := 123) at_121 rfl rfl ?_
          refine iload (pc' := 125) at_123 rfl rfl ?_
          refine call (i := 89) (i2 := 88) (Wd := 0) (pc' := 128) (kStatic (i := 86) (i2 := 87) (i3 := 88) (i4 := 89) (argsL := [(.int d2), (.int (2 : Int32)), (.int (Int32.ofNat f)), (.int (Int32.ofNat t))]) (S' := []) (Wd := 0) at_125 rfl rfl rfl rfl (by decide) rfl pd_16 rfl rfl (Nat.le_of_ble_eq_true rfl)) (rm_fits l Z a0 hw hEL n0 d2 2 f t _ hd2 (by decide) hf ht) rfl rfl (by simp) (by decide) (by decide) (by decide) (by decide) rfl fun v_ h347 P348 sz349 => ?_
          obtain ⟨⟨b2, rfl, hb2⟩, e350⟩ := P348
          rw [e350]
          refine at' (ce' := 4) (sl' := 20) (pc' := 128) (L' := #[.val (.int i0), .val (.int i1), .val (.int i2), .val (.ref s), .val (.ref sx), .val (.int (Int32.ofNat f)), .val (.int (Int32.ofNat t)), .val (.int b), .unset]) (S' := [(.int b2)]) rfl rfl rfl rfl rfl ?_
          refine ifc (pc' := 149) (pcF := 131) at_128 (by decide) rfl rfl (fun (z2 : b2 = (0 : Int32)) => ?_) (fun (z2 : ¬ (b2 = (0 : Int32))) => ?_)
          · skip
            refine iconst (pc' := 150) (v := (0 : Int32)) at_149 rfl rfl ?_
            exact J150 _ (hb.elim (fun q => absurd q.2 (fun q => hb2.elim (fun r => absurd (r.1.symm.trans z2) (by decide)) (fun r => r.2 (fun h1 h2 => q.2 2 h1 h2)))) (fun q => q.1))
          · skip
            refine aloadN (pc' := 132) at_131 rfl rfl rfl ?_
            refine iconst (pc' := 133) (v := (3 : Int32)) at_132 rfl rfl ?_
            refine caload (v := .int d3) (pc' := 134) at_133 As ⟨by decide, by decide⟩ rfl rfl ?_
            refine iconst (pc' := 135) (v := (3 : Int32)) at_134 rfl rfl ?_
            refine iload (pc' := 137) at_135 rfl rfl ?_
            refine iload (pc' := 139) at_137 rfl rfl ?_
            refine call (i := 89) (i2 := 88) (Wd := 0) (pc' := 142) (kStatic (i := 86) (i2 := 87) (i3 := 88) (i4 := 89) (argsL := [(.int d3), (.int (3 : Int32)), (.int (Int32.ofNat f)), (.int (Int32.ofNat t))]) (S' := []) (Wd := 0) at_139 rfl rfl rfl rfl (by decide) rfl pd_16 rfl rfl (Nat.le_of_ble_eq_true rfl)) (rm_fits l Z a0 hw hEL n0 d3 3 f t _ hd3 (by decide) hf ht) rfl rfl (by simp) (by decide) (by decide) (by decide) (by decide) rfl fun v_ h351 P352 sz353 => ?_
            obtain ⟨⟨b3, rfl, hb3⟩, e354⟩ := P352
            rw [e354]
            refine at' (ce' := 4) (sl' := 20) (pc' := 142) (L' := #[.val (.int i0), .val (.int i1), .val (.int i2), .val (.ref s), .val (.ref sx), .val (.int (Int32.ofNat f)), .val (.int (Int32.ofNat t)), .val (.int b), .unset]) (S' := [(.int b3)]) rfl rfl rfl rfl rfl ?_
            refine ifc (pc' := 149) (pcF := 145) at_142 (by decide) rfl rfl (fun (z3 : b3 = (0 : Int32)) => ?_) (fun (z3 : ¬ (b3 = (0 : Int32))) => ?_)
            · skip
              refine iconst (pc' := 150) (v := (0 : Int32)) at_149 rfl rfl ?_
              exact J150 _ (hb.elim (fun q => absurd q.2 (fun q => hb3.elim (fun r => absurd (r.1.symm.trans z3) (by decide)) (fun r => r.2 (fun h1 h2 => q.2 3 h1 h2)))) (fun q => q.1))
            · skip
              refine iconst (pc' := 146) (v := (1 : Int32)) at_145 rfl rfl ?_
              refine goto (pc' := 150) at_146 (by decide) rfl ?_
              refine J150 _ (hb.elim (fun q => q.1) (fun q => absurd ⟨(own_lt f hf t ht).mp c0, fun j h1 h2 => ?_⟩ q.2))
              have y0 := hb0.elim (fun r => r.2) (fun r => absurd r.1 z0)
              have y1 := hb1.elim (fun r => r.2) (fun r => absurd r.1 z1)
              have y2 := hb2.elim (fun r => r.2) (fun r => absurd r.1 z2)
              have y3 := hb3.elim (fun r => r.2) (fun r => absurd r.1 z3)
              have hj : j = 0 ∨ j = 1 ∨ j = 2 ∨ j = 3 := by omega
              rcases hj with rfl | rfl | rfl | rfl
              · exact y0 h1 h2
              · exact y1 h1 h2
              · exact y2 h1 h2
              · exact y3 h1 h2
  refine iconst (pc' := 1) (v := (4 : Int32)) at_0 rfl rfl ?_
  refine newarray (i := 0) (cap := 4) (ty := .char) (pc' := 3) at_1 rfl rfl (by decide) (by decide) (by decide) (by decide) (by decide) rfl fun h355 a356 kc360 g357 E358 V359 => ?_
  replace V359 : Arv Z h355 a356 kc360 .char (4 : Int32) [(.int (0 : Int32)), (.int (0 : Int32)), (.int (0 : Int32)), (.int (0 : Int32))] (.int (0 : Int32)) := V359.pad (pad_rep [] (.int (0 : Int32)) 4)
  refine astoreN (pc' := 4) (L' := #[.val (.int i0), .val (.int i1), .val (.int i2), .val (.ref a356), .unset, .unset, .unset, .unset, .unset]) at_3 rfl rfl rfl ?_
  refine aloadN (pc' := 5) at_4 rfl rfl rfl ?_
  refine iconst (pc' := 6) (v := (0 : Int32)) at_5 rfl rfl ?_
  refine iloadN (pc' := 7) at_6 rfl rfl ?_
  refine ldcInt (i := 1) (v := (65535 : Int32)) (pc' := 9) at_7 rfl rfl ?_
  refine iand (pc' := 10) at_9 rfl ?_
  refine i2c (pc' := 11) at_10 rfl ?_
  refine castore (pc' := 12) at_11 V359 ⟨by decide, by decide⟩ (by simp) (Nat.le_of_ble_eq_true rfl) rfl fun h361 W362 V363 => ?_
  replace V359 : Arv Z h361 a356 kc360 .char (4 : Int32) [(.int (nar .char ((i0 &&& (65535 : Int32)).toUInt32.toUInt16.toUInt32.toInt32))), (.int (0 : Int32)), (.int (0 : Int32)), (.int (0 : Int32))] (.int (0 : Int32)) := V363
  refine aloadN (pc' := 13) at_12 rfl rfl rfl ?_
  refine iconst (pc' := 14) (v := (1 : Int32)) at_13 rfl rfl ?_
  refine iloadN (pc' := 15) at_14 rfl rfl ?_
  refine bipush (pc' := 17) (v := (16 : Int32)) at_15 rfl rfl ?_
  refine iushr (pc' := 18) at_17 rfl ?_
  refine ldcInt (i := 1) (v := (65535 : Int32)) (pc' := 20) at_18 rfl rfl ?_
  refine iand (pc' := 21) at_20 rfl ?_
  refine i2c (pc' := 22) at_21 rfl ?_
  refine castore (pc' := 23) at_22 V359 ⟨by decide, by decide⟩ (by simp) (Nat.le_of_ble_eq_true rfl) rfl fun h364 W365 V366 => ?_
  replace V359 : Arv Z h364 a356 kc360 .char (4 : Int32) [(.int (nar .char ((i0 &&& (65535 : Int32)).toUInt32.toUInt16.toUInt32.toInt32))), (.int (nar .char ((((i0.toUInt32 >>> ((16 : Int32) &&& 31).toUInt32).toInt32) &&& (65535 : Int32)).toUInt32.toUInt16.toUInt32.toInt32))), (.int (0 : Int32)), (.int (0 : Int32))] (.int (0 : Int32)) := V366
  refine aloadN (pc' := 24) at_23 rfl rfl rfl ?_
  refine iconst (pc' := 25) (v := (2 : Int32)) at_24 rfl rfl ?_
  refine iloadN (pc' := 26) at_25 rfl rfl ?_
  refine ldcInt (i := 1) (v := (65535 : Int32)) (pc' := 28) at_26 rfl rfl ?_
  refine iand (pc' := 29) at_28 rfl ?_
  refine i2c (pc' := 30) at_29 rfl ?_
  refine castore (pc' := 31) at_30 V359 ⟨by decide, by decide⟩ (by simp) (Nat.le_of_ble_eq_true rfl) rfl fun h367 W368 V369 => ?_
  replace V359 : Arv Z h367 a356 kc360 .char (4 : Int32) [(.int (nar .char ((i0 &&& (65535 : Int32)).toUInt32.toUInt16.toUInt32.toInt32))), (.int (nar .char ((((i0.toUInt32 >>> ((16 : Int32) &&& 31).toUInt32).toInt32) &&& (65535 : Int32)).toUInt32.toUInt16.toUInt32.toInt32))), (.int (nar .char ((i1 &&& (65535 : Int32)).toUInt32.toUInt16.toUInt32.toInt32))), (.int (0 : Int32))] (.int (0 : Int32)) := V369
  refine aloadN (pc' := 32) at_31 rfl rfl rfl ?_
  refine iconst (pc' := 33) (v := (3 : Int32)) at_32 rfl rfl ?_
  refine iloadN (pc' := 34) at_33 rfl rfl ?_
  refine bipush (pc' := 36) (v := (16 : Int32)) at_34 rfl rfl ?_
  refine iushr (pc' := 37) at_36 rfl ?_
  refine ldcInt (i := 1) (v := (65535 : Int32)) (pc' := 39) at_37 rfl rfl ?_
  refine iand (pc' := 40) at_39 rfl ?_
  refine i2c (pc' := 41) at_40 rfl ?_
  refine castore (pc' := 42) at_41 V359 ⟨by decide, by decide⟩ (by simp) (Nat.le_of_ble_eq_true rfl) rfl fun h370 W371 V372 => ?_
  replace V359 : Arv Z h370 a356 kc360 .char (4 : Int32) [(.int (nar .char ((i0 &&& (65535 : Int32)).toUInt32.toUInt16.toUInt32.toInt32))), (.int (nar .char ((((i0.toUInt32 >>> ((16 : Int32) &&& 31).toUInt32).toInt32) &&& (65535 : Int32)).toUInt32.toUInt16.toUInt32.toInt32))), (.int (nar .char ((i1 &&& (65535 : Int32)).toUInt32.toUInt16.toUInt32.toInt32))), (.int (nar .char ((((i1.toUInt32 >>> ((16 : Int32) &&& 31).toUInt32).toInt32) &&& (65535 : Int32)).toUInt32.toUInt16.toUInt32.toInt32)))] (.int (0 : Int32)) := V372
  refine new (i := 2) (i2 := 3) (i3 := 4) (pc' := 45) at_42 rfl rfl rfl (by decide) (by decide) rfl fun h373 a374 g375 E376 A377 D378 => ?_
  have ne_a356_a374 : a356 ≠ a374 := Nat.ne_of_lt (by rw [g375]; exact V359.lt)
  replace V359 := V359.ext E376
  have F_coder_a374 : Fld Z h373 a374 "java/lang/String" "coder" "B" (.int (0 : Int32)) := D378 (Or.inr (hw _ (List.mem_of_getElem? (i := 28) rfl))) (ty := .byte) (by decide)
  have F_value_a374 : Fld Z h373 a374 "java/lang/String" "value" "[B" .null := D378 (Or.inr (hw _ (List.mem_of_getElem? (i := 30) rfl))) (ty := (.array .byte)) (by decide)
  refine dup (pc' := 46) at_45 rfl rfl ?_
  refine aloadN (pc' := 47) at_46 rfl rfl rfl ?_
  obtain ⟨d0, ed0⟩ : ∃ d, d = (i0 &&& (65535 : Int32)) := ⟨_, rfl⟩
  have hd0 : ch d0 := by rw [ed0]; exact own_ch _
  obtain ⟨d1, ed1⟩ : ∃ d, d = (((i0.toUInt32 >>> ((16 : Int32) &&& 31).toUInt32).toInt32) &&& (65535 : Int32)) := ⟨_, rfl⟩
  have hd1 : ch d1 := by rw [ed1]; exact own_ch _
  obtain ⟨d2, ed2⟩ : ∃ d, d = (i1 &&& (65535 : Int32)) := ⟨_, rfl⟩
  have hd2 : ch d2 := by rw [ed2]; exact own_ch _
  obtain ⟨d3, ed3⟩ : ∃ d, d = (((i1.toUInt32 >>> ((16 : Int32) &&& 31).toUInt32).toInt32) &&& (65535 : Int32)) := ⟨_, rfl⟩
  have hd3 : ch d3 := by rw [ed3]; exact own_ch _
  have As : Arv Z h373 a356 kc360 .char (4 : Int32) [.int d0, .int d1, .int d2, .int d3] (.int (0 : Int32)) := by
    have q := V359
    rw [own_i2c (own_ch _), own_i2c (own_ch _), own_i2c (own_ch _), own_i2c (own_ch _), own_nar (own_ch _), own_nar (own_ch _), own_nar (own_ch _), own_nar (own_ch _)] at q
    rw [ed0, ed1, ed2, ed3]; exact q
  by_cases g0 : (255 : Int32) < d0
  · skip
    refine call (i := 7) (i2 := 4) (Wd := 1) (pc' := 50) (kInit (i := 5) (i2 := 6) (i4 := 7) (a := a374) (argsL := [(.ref a356)]) (S' := [(.ref a374)]) (Wd := 1) at_47 rfl rfl rfl rfl (by decide) rfl pd_17 rfl rfl (Nat.le_of_ble_eq_true rfl)) (rm_i0 l Z a0 hw hEL n0 a374 a356 _ _ d0 d1 d2 d3 _ A377 F_value_a374 F_coder_a374 As hB hU hd0 g0) rfl rfl (by simp) (by decide) (by decide) (by decide) (by decide) rfl fun v_ h379 P380 sz381 => ?_
    obtain ⟨rfl, Kx, Wx⟩ := P380
    exact fewer (fs' := []) (fun _ q => nomatch q) (more (ce' := 4) (sl' := 20) (by decide) (by decide) (J50 _ a374 a356 _ _ _ _ _ _ hd0 hd1 hd2 hd3 (As.keep Kx (ninS ne_a356_a374 nin0)) (Or.inr Wx)))
  · skip
    by_cases g1 : (255 : Int32) < d1
    · skip
      refine call (i := 7) (i2 := 4) (Wd := 1) (pc' := 50) (kInit (i := 5) (i2 := 6) (i4 := 7) (a := a374) (argsL := [(.ref a356)]) (S' := [(.ref a374)]) (Wd := 1) at_47 rfl rfl rfl rfl (by decide) rfl pd_17 rfl rfl (Nat.le_of_ble_eq_true rfl)) (rm_i1 l Z a0 hw hEL n0 a374 a356 _ _ d0 d1 d2 d3 _ A377 F_value_a374 F_coder_a374 As hB hU hd1 g0 g1) rfl rfl (by simp) (by decide) (by decide) (by decide) (by decide) rfl fun v_ h382 P383 sz384 => ?_
      obtain ⟨rfl, Kx, Wx⟩ := P383
      exact fewer (fs' := []) (fun _ q => nomatch q) (more (ce' := 4) (sl' := 20) (by decide) (by decide) (J50 _ a374 a356 _ _ _ _ _ _ hd0 hd1 hd2 hd3 (As.keep Kx (ninS ne_a356_a374 nin0)) (Or.inr Wx)))
    · skip
      by_cases g2 : (255 : Int32) < d2
      · skip
        refine call (i := 7) (i2 := 4) (Wd := 1) (pc' := 50) (kInit (i := 5) (i2 := 6) (i4 := 7) (a := a374) (argsL := [(.ref a356)]) (S' := [(.ref a374)]) (Wd := 1) at_47 rfl rfl rfl rfl (by decide) rfl pd_17 rfl rfl (Nat.le_of_ble_eq_true rfl)) (rm_i2 l Z a0 hw hEL n0 a374 a356 _ _ d0 d1 d2 d3 _ A377 F_value_a374 F_coder_a374 As hB hU hd2 g0 g1 g2) rfl rfl (by simp) (by decide) (by decide) (by decide) (by decide) rfl fun v_ h385 P386 sz387 => ?_
        obtain ⟨rfl, Kx, Wx⟩ := P386
        exact fewer (fs' := []) (fun _ q => nomatch q) (more (ce' := 4) (sl' := 20) (by decide) (by decide) (J50 _ a374 a356 _ _ _ _ _ _ hd0 hd1 hd2 hd3 (As.keep Kx (ninS ne_a356_a374 nin0)) (Or.inr Wx)))
      · skip
        by_cases g3 : (255 : Int32) < d3
        · skip
          refine call (i := 7) (i2 := 4) (Wd := 1) (pc' := 50) (kInit (i := 5) (i2 := 6) (i4 := 7) (a := a374) (argsL := [(.ref a356)]) (S' := [(.ref a374)]) (Wd := 1) at_47 rfl rfl rfl rfl (by decide) rfl pd_17 rfl rfl (Nat.le_of_ble_eq_true rfl)) (rm_i3 l Z a0 hw hEL n0 a374 a356 _ _ d0 d1 d2 d3 _ A377 F_value_a374 F_coder_a374 As hB hU hd3 g0 g1 g2 g3) rfl rfl (by simp) (by decide) (by decide) (by decide) (by decide) rfl fun v_ h388 P389 sz390 => ?_
          obtain ⟨rfl, Kx, Wx⟩ := P389
          exact fewer (fs' := []) (fun _ q => nomatch q) (more (ce' := 4) (sl' := 20) (by decide) (by decide) (J50 _ a374 a356 _ _ _ _ _ _ hd0 hd1 hd2 hd3 (As.keep Kx (ninS ne_a356_a374 nin0)) (Or.inr Wx)))
        · skip
          refine strNew (i := 3) (Wd := 1) (n := 4) (cs := dl d0 d1 d2 d3) (pc' := 50) hB (by decide +kernel) rfl (kInit (i := 5) (i2 := 6) (i4 := 7) (a := a374) (argsL := [(.ref a356)]) (S' := [(.ref a374)]) (Wd := 1) at_47 rfl rfl rfl rfl (by decide) rfl pd_17 rfl rfl (Nat.le_of_ble_eq_true rfl)) A377 F_value_a374 F_coder_a374 As rfl rfl (by decide) (by decide) (by intro c hc; simp only [dl, List.mem_cons, List.not_mem_nil, or_false] at hc; rcases hc with rfl | rfl | rfl | rfl <;> first | exact ⟨hd0.1, g0⟩ | exact ⟨hd1.1, g1⟩ | exact ⟨hd2.1, g2⟩ | exact ⟨hd3.1, g3⟩) (by simp) (by decide) (by decide) (by decide) (by decide) rfl fun hs Kx Sx => ?_
          exact fewer (fs' := []) (fun _ q => nomatch q) (more (ce' := 4) (sl' := 20) (by decide) (by decide) (J50 _ a374 a356 _ _ _ _ _ _ hd0 hd1 hd2 hd3 (As.keep Kx (ninS ne_a356_a374 nin0)) (Or.inl Sx)))
set_option maxRecDepth 65536 in
set_option maxHeartbeats 40000000 in
theorem comes_1 {Post : Tables → Env → Array Value → State → Outcome → State → Prop} (hpost : ∀ tb e args s v u, (limb_1_1.after args s (.returned v) u = true ∧ limb_1_2.after args s (.returned v) u = true ∧ True) → FrameEnd s (.returned v) u (Jvm.fieldLocs frame_1_writes args s ++ Jvm.arrayLocs frame_1_arrays args s ++ Jvm.staticLocs frame_1_statics s) 16 128 → Post tb e args s (.returned v) u) :
    ArmFor flags0 classFile x code maxLocals ret World_1 tables_1 room_1 Calls_1 rest_1 Pre_1 Post := by
  intro l hfl _ _ p e ha hc hk s m args below hf hA hF happ hP
  obtain ⟨hcalls, hrest, hpre⟩ := hP
  obtain ⟨-, -, -, hnamed, -, -, -, hat⟩ := (Spec.applies_iff hf).mp happ
  obtain ⟨hg, hn⟩ := and_e (Cond.before_iff.mp (show (Jvm.Cond.and given_1 narrow_1).before args s = true from hpre))
  obtain ⟨hcount, hg0⟩ := and_e hg
  obtain ⟨ga0, hg1⟩ := and_e hg0
  obtain ⟨ga1, hg2⟩ := and_e hg1
  have ga2 := hg2
  obtain ⟨w0, w1, w2, rfl⟩ : ∃ w0 w1 w2 : Value, args = #[w0, w1, w2] := by
    have hs : args.size = 3 := by simpa [Cond.value, given_1] using hcount
    obtain ⟨L⟩ := args
    match L, hs with
    | [w0, w1, w2], _ => exact ⟨w0, w1, w2, rfl⟩
  have hw := fun d (hd : d ∈ tables_1) => atoms_spec (ws := Jvm.Cond.code x code maxLocals ret :: tables_1) hat d (List.mem_cons_of_mem _ hd)
  have hfit : Fit s := fun {y c} hc i hi => by
    obtain ⟨ha, rfl⟩ := Array.getElem?_eq_some_iff.mp hc
    have q := List.all_eq_true.mp ((Array.all_eq_true_iff_forall_mem.mp hF) _ (Array.getElem_mem ha)) i (List.mem_range.mpr hi)
    simpa [Array.getElem?_eq_getElem hi] using q
  obtain ⟨hsets, hown0⟩ := atoms_of _ (rest_1_c_eq ▸ (show rest_1_c.before _ s = true from hrest))
  obtain ⟨i0, ei0⟩ := is_v ga0
  obtain rfl : w0 = (.int i0) := Option.some.inj ei0
  obtain ⟨i1, ei1⟩ := is_v ga1
  obtain rfl : w1 = (.int i1) := Option.some.inj ei1
  obtain ⟨i2, ei2⟩ := is_v ga2
  obtain rfl : w2 = (.int i2) := Option.some.inj ei2
  obtain ⟨zc, ezc⟩ := is_v (Cond.before_iff.mp (hsets _ (List.mem_of_getElem? (i := 1) rfl)))
  have nzc := not_v (Cond.before_iff.mp (hsets _ (List.mem_of_getElem? (i := 2) rfl)))
  have Szc : Sta s s.heap "java/lang/String" "COMPACT_STRINGS" "Z" (.int zc) := Sta.start ezc (Or.inl (hsets _ (List.mem_of_getElem? (i := 0) rfl)))
  obtain ⟨fm, efm, rfm⟩ := isR_v (Cond.before_iff.mp (hsets _ (List.mem_of_getElem? (i := 8) rfl)))
  have Sfm : Sta s s.heap "jdk/internal/util/Preconditions" "SIOOBE_FORMATTER" "Ljava/util/function/BiFunction;" fm := Sta.start efm (Or.inl (hsets _ (List.mem_of_getElem? (i := 7) rfl)))
  have hzc : ¬ (zc = (0 : Int32)) := gotF (Cond.eq_ints ezc (Term.int_eval (0))) nzc
  have hB : Sets s := ⟨zc, fm, Szc, hzc, Sfm, rfm⟩
  have U0 := Sta.start (eqI (Cond.before_iff.mp (hsets _ (List.mem_of_getElem? (i := 12) rfl)))) (Or.inl (hsets _ (List.mem_of_getElem? (i := 11) rfl)))
  have U1 := Sta.start (eqI (Cond.before_iff.mp (hsets _ (List.mem_of_getElem? (i := 15) rfl)))) (Or.inl (hsets _ (List.mem_of_getElem? (i := 14) rfl)))
  have U2 := Sta.start (eqI (Cond.before_iff.mp (hsets _ (List.mem_of_getElem? (i := 18) rfl)))) (Or.inl (hsets _ (List.mem_of_getElem? (i := 17) rfl)))
  obtain ⟨n, o, h1, h2, h3, v, L, rfl, ⟨rfl, N, -⟩, hCH, hE, hWm⟩ := law_met l s _ hw EW.nil s.heap.size i0 i1 i2 s.heap hB ⟨U0, U1, U2⟩ p e ha hc hk s m _ below hf ((Spec.applies_iff_loose hf).mp happ).1 ⟨rfl, State.Warmed39.refl s, rfl, nilCHv, Old.start s, fun x q => nomatch q⟩ trivial
  refine ⟨n, _, h1, h2, h3, hpost _ _ _ _ _ _ ⟨Cond.after_iff.mpr rfl, Cond.after_iff.mpr (eq_i res_at (Term.int_eval (1)) rfl), trivial⟩ ⟨⟨_, rfl⟩, hWm rfl, (hE.2.2.2.sift fun y hy => Or.inr (N y hy)).mono (by decide) (by decide)⟩⟩
theorem main_1_1 : Claimed_1_1 := comes_1 fun _ _ _ _ _ _ h hF => ⟨h.1, hF⟩
theorem main_1_2 : Claimed_1_2 := comes_1 fun _ _ _ _ _ _ h hF => ⟨h.2.1, hF⟩
end Jvm.Pilot.@@N@@
namespace Jvm.Pilot.@@N@@
open Jvm Jvm.ClassFile Sem Op Lib Jvm.Free Jvm.Stand Jvm.Pilot.@@N@@.Jvm.D
/-! MADE BY PROGRAM (witnessworld.py) out of the Statement's table words and the real class files: 20 classes; the members and pool entries that the words name. The judged class is class 1, her method 1. -/
namespace start1
open Jvm.ClassFile
def u (s : String) : CpInfo := .utf8 (stringToUtf16 s)
/-- a pool by its gaps: so many unusable entries, then the entry; so many at the end -/
def gap : Nat → List CpInfo → List CpInfo
  | 0, r => r
  | n + 1, r => .unusable :: gap n r
def poolList (es : List (Nat × CpInfo)) (last : Nat) : List CpInfo := es.foldr (fun e r => gap e.1 (e.2 :: r)) (gap last [])
def pool (es : List (Nat × CpInfo)) (last : Nat) : Array CpInfo := ⟨poolList es last⟩
def fileOf (pool : Array CpInfo) (this : Nat) (attrs : Array Attribute := #[]) (ms : Array MethodInfo := #[]) (fl : Nat := 33) (sup : Nat := 0) (ifs : Array Nat := #[]) (fds : Array FieldInfo := #[]) : ClassFile where
  minorVersion := 0
  majorVersion := 65
  constantPool := pool
  accessFlags := fl
  thisClass := this
  superClass := sup
  interfaces := ifs
  fields := fds
  methods := ms
  attributes := attrs
def plain (name : String) (sup : Option ClassId) : Class where
  name := name
  kind := .ordinary
  loader := none
  accessFlags := 33
  super := sup
  interfaces := #[]
  cf := none
  fields := #[]
  methods := #[]
  instanceTypes := #[]
  staticTypes := #[]
  resolved := #[]
  callSites := []
  init := .initialized
  statics := none
  mirror := none

def pool0 : Array CpInfo := pool [(5, u "<init>"), (0, u "()V"), (1, .class_ 10), (1, u "java/lang/Object")] 113

def k0c0 : Code := { maxStack := 0, maxLocals := 1, code := object_method_1_code, exceptionTable := #[], attributes := #[] }
def k0m0 : Method := { name := "<init>", desc := "()V", sig := { parameters := [], returnType := none }, accessFlags := 1, code := some k0c0 }
/-- java/lang/Object -/
def k0 : Class := { plain "java/lang/Object" none with
  accessFlags := 33
  interfaces := #[]
  cf := some (fileOf pool0 8 #[] #[{ accessFlags := 1, nameIndex := 5, descriptorIndex := 6, attributes := #[] }] 33 0 #[] #[])
  fields := #[]
  methods := #[k0m0]
  instanceTypes := #[]
  staticTypes := #[]
  resolved := Array.replicate 124 none
  statics := none }

def pool1 : Array CpInfo := pool [(2, .class_ 4), (1, u "java/lang/Object"), (0, u "<init>"), (0, u "()V"), (0, .integer 65535), (0, .class_ 9), (0, u "java/lang/String"), (0, .methodref 8 11), (0, .nameAndType 5 12), (0, u "([C)V"), (0, .integer 2147483647), (0, .methodref 15 16), (0, .class_ 17), (0, .nameAndType 18 19), (0, u "com/example/lintwork/lintwork/input/AsciiDigits"), (0, u "isDigits"), (0, u "(Ljava/lang/CharSequence;II)Z"), (0, .methodref 21 22), (0, .class_ 23), (0, .nameAndType 24 25), (0, u "com/example/lintwork/lintwork/input/AsciiDigitsIsDigitsPinLaw"), (0, u "fits"), (0, u "(CIII)Z"), (0, .methodref 21 27), (0, .nameAndType 28 29), (0, u "asciiDigit"), (0, u "(C)Z"), (2, u "law"), (0, u "(III)Z")] 5

def k1m0 : Method := { name := "<init>", desc := "()V", sig := { parameters := [], returnType := none }, accessFlags := 2, code := none }
def k1c1 : Code := { maxStack := 4, maxLocals := 9, code := code, exceptionTable := #[], attributes := #[] }
def k1m1 : Method := { name := "law", desc := "(III)Z", sig := { parameters := [.int, .int, .int], returnType := some .boolean }, accessFlags := 9, code := some k1c1 }
def k1c2 : Code := { maxStack := 2, maxLocals := 2, code := method_3_code, exceptionTable := #[], attributes := #[] }
def k1m2 : Method := { name := "asciiDigit", desc := "(C)Z", sig := { parameters := [.char], returnType := some .boolean }, accessFlags := 10, code := some k1c2 }
def k1c3 : Code := { maxStack := 2, maxLocals := 4, code := method_4_code, exceptionTable := #[], attributes := #[] }
def k1m3 : Method := { name := "fits", desc := "(CIII)Z", sig := { parameters := [.char, .int, .int, .int], returnType := some .boolean }, accessFlags := 10, code := some k1c3 }
/-- com/example/lintwork/lintwork/input/AsciiDigitsIsDigitsPinLaw -/
def k1 : Class := { plain "com/example/lintwork/lintwork/input/AsciiDigitsIsDigitsPinLaw" (some 0) with
  accessFlags := 49
  interfaces := #[]
  cf := some (fileOf pool1 21 #[] #[{ accessFlags := 2, nameIndex := 5, descriptorIndex := 6, attributes := #[] }, { accessFlags := 9, nameIndex := 32, descriptorIndex := 33, attributes := #[] }, { accessFlags := 10, nameIndex := 28, descriptorIndex := 29, attributes := #[] }, { accessFlags := 10, nameIndex := 24, descriptorIndex := 25, attributes := #[] }] 49 2 #[] #[])
  fields := #[]
  methods := #[k1m0, k1m1, k1m2, k1m3]
  instanceTypes := #[]
  staticTypes := #[]
  resolved := Array.replicate 39 none
  statics := none }

def pool2 : Array CpInfo := pool [(1, .class_ 2), (0, u "java/io/Serializable"), (0, .class_ 4), (0, u "java/lang/Object")] 2

/-- java/io/Serializable -/
def k2 : Class := { plain "java/io/Serializable" (some 0) with
  accessFlags := 1537
  interfaces := #[]
  cf := some (fileOf pool2 1 #[] #[] 1537 3 #[] #[])
  fields := #[]
  methods := #[]
  instanceTypes := #[]
  staticTypes := #[]
  resolved := Array.replicate 7 none
  statics := none }

def pool3 : Array CpInfo := pool [(1, .class_ 2), (0, u "java/lang/Comparable"), (0, .class_ 4), (0, u "java/lang/Object")] 7

/-- java/lang/Comparable -/
def k3 : Class := { plain "java/lang/Comparable" (some 0) with
  accessFlags := 1537
  interfaces := #[]
  cf := some (fileOf pool3 1 #[] #[] 1537 3 #[] #[])
  fields := #[]
  methods := #[]
  instanceTypes := #[]
  staticTypes := #[]
  resolved := Array.replicate 12 none
  statics := none }

def pool4 : Array CpInfo := pool [(2, .class_ 4), (1, u "java/lang/CharSequence"), (40, u "charAt"), (0, u "(I)C"), (0, .class_ 48), (0, u "java/lang/CharSequence$1CodePointIterator"), (10, .class_ 60), (0, u "java/lang/CharSequence$1CharIterator"), (5, .class_ 67), (0, u "java/lang/Object")] 63

def k4m0 : Method := { name := "charAt", desc := "(I)C", sig := { parameters := [.int], returnType := some .char }, accessFlags := 1025, code := none }
/-- java/lang/CharSequence -/
def k4 : Class := { plain "java/lang/CharSequence" (some 0) with
  accessFlags := 1537
  interfaces := #[]
  cf := some (fileOf pool4 2 #[.nestMembers #[47, 59]] #[{ accessFlags := 1025, nameIndex := 45, descriptorIndex := 46, attributes := #[] }] 1537 66 #[] #[])
  fields := #[]
  methods := #[k4m0]
  instanceTypes := #[]
  staticTypes := #[]
  resolved := Array.replicate 131 none
  statics := none }

def pool5 : Array CpInfo := pool [(1, .class_ 2), (0, u "java/lang/constant/Constable"), (0, .class_ 4), (0, u "java/lang/Object")] 6

/-- java/lang/constant/Constable -/
def k5 : Class := { plain "java/lang/constant/Constable" (some 0) with
  accessFlags := 1537
  interfaces := #[]
  cf := some (fileOf pool5 1 #[] #[] 1537 3 #[] #[])
  fields := #[]
  methods := #[]
  instanceTypes := #[]
  staticTypes := #[]
  resolved := Array.replicate 11 none
  statics := none }

def pool6 : Array CpInfo := pool [(1, .class_ 2), (0, u "java/lang/constant/ConstantDesc"), (0, .class_ 4), (0, u "java/lang/Object")] 32

/-- java/lang/constant/ConstantDesc -/
def k6 : Class := { plain "java/lang/constant/ConstantDesc" (some 0) with
  accessFlags := 1537
  interfaces := #[]
  cf := some (fileOf pool6 1 #[] #[] 1537 3 #[] #[])
  fields := #[]
  methods := #[]
  instanceTypes := #[]
  staticTypes := #[]
  resolved := Array.replicate 37 none
  statics := none }

def pool7 : Array CpInfo := pool [(1, .methodref 2 3), (0, .class_ 4), (0, .nameAndType 5 6), (0, u "java/lang/Object"), (0, u "<init>"), (0, u "()V"), (2, .fieldref 10 11), (0, .class_ 12), (0, .nameAndType 13 14), (0, u "java/lang/String"), (0, u "value"), (0, u "[B"), (0, .fieldref 10 16), (0, .nameAndType 17 18), (0, u "coder"), (0, u "B"), (2, u "hash"), (0, u "I"), (2, u "hashIsZero"), (0, u "Z"), (0, .methodref 10 28), (0, .nameAndType 5 29), (0, u "([CIILjava/lang/Void;)V"), (8, .fieldref 10 39), (0, .nameAndType 40 26), (0, u "COMPACT_STRINGS"), (1, .class_ 44), (1, u "java/lang/StringUTF16"), (0, u "compress"), (1, .methodref 42 48), (0, .nameAndType 49 50), (0, u "coderFromArrayLen"), (0, u "([BI)B"), (56, .class_ 109), (1, u "java/lang/StringLatin1"), (32, u "()Z"), (34, .methodref 42 178), (0, .nameAndType 45 179), (0, u "([CII)[B"), (183, u "([BI)C"), (27, u "(II)V"), (35, u "(I)C"), (64, .methodref 10 493), (0, .nameAndType 494 142), (0, u "isLatin1"), (0, .methodref 107 496), (0, .nameAndType 497 363), (0, u "charAt"), (0, .methodref 42 496), (2, u "checkIndex"), (73, .class_ 576), (0, u "java/lang/CharSequence"), (22, u "CASE_INSENSITIVE_ORDER"), (0, u "Ljava/util/Comparator;"), (409, u "([C)V"), (42, .fieldref 1054 1055), (0, .class_ 1056), (0, .nameAndType 1057 1058), (0, u "jdk/internal/util/Preconditions"), (0, u "SIOOBE_FORMATTER"), (0, u "Ljava/util/function/BiFunction;"), (0, .methodref 1054 1060), (0, .nameAndType 501 1061), (0, u "(IILjava/util/function/BiFunction;)I"), (39, u "serialPersistentFields"), (0, u "[Ljava/io/ObjectStreamField;"), (0, .class_ 1104), (0, u "java/lang/String$CaseInsensitiveComparator"), (1, .class_ 1107), (0, u "java/io/Serializable"), (0, .class_ 1109), (0, u "java/lang/Comparable"), (0, .class_ 1111), (0, u "java/lang/constant/Constable"), (0, .class_ 1113), (0, u "java/lang/constant/ConstantDesc"), (2, u "serialVersionUID"), (0, u "J"), (3, u "REPL"), (0, u "C"), (2, u "LATIN1"), (1, u "UTF16")] 323

def k7m0 : Method := { name := "<init>", desc := "()V", sig := { parameters := [], returnType := none }, accessFlags := 1, code := none }
def k7c1 : Code := { maxStack := 5, maxLocals := 2, code := jdk_42_method_3_code, exceptionTable := #[], attributes := #[] }
def k7m1 : Method := { name := "<init>", desc := "([C)V", sig := { parameters := [(.array .char)], returnType := none }, accessFlags := 1, code := some k7c1 }
def k7c2 : Code := { maxStack := 2, maxLocals := 2, code := jdk_42_method_56_code, exceptionTable := #[], attributes := #[] }
def k7m2 : Method := { name := "charAt", desc := "(I)C", sig := { parameters := [.int], returnType := some .char }, accessFlags := 1, code := some k7c2 }
def k7c3 : Code := { maxStack := 4, maxLocals := 6, code := jdk_42_method_149_code, exceptionTable := #[], attributes := #[] }
def k7m3 : Method := { name := "<init>", desc := "([CIILjava/lang/Void;)V", sig := { parameters := [(.array .char), .int, .int, (.object "java/lang/Void")], returnType := none }, accessFlags := 2, code := some k7c3 }
def k7c4 : Code := { maxStack := 1, maxLocals := 1, code := jdk_42_method_154_code, exceptionTable := #[], attributes := #[] }
def k7m4 : Method := { name := "isLatin1", desc := "()Z", sig := { parameters := [], returnType := some .boolean }, accessFlags := 0, code := some k7c4 }
def k7c5 : Code := { maxStack := 3, maxLocals := 2, code := jdk_42_method_155_code, exceptionTable := #[], attributes := #[] }
def k7m5 : Method := { name := "checkIndex", desc := "(II)V", sig := { parameters := [.int, .int], returnType := none }, accessFlags := 8, code := some k7c5 }
/-- java/lang/String -/
def k7 : Class := { plain "java/lang/String" (some 0) with
  accessFlags := 49
  interfaces := #[2, 3, 4, 5, 6]
  cf := some (fileOf pool7 10 #[.nestMembers #[1103]] #[{ accessFlags := 1, nameIndex := 5, descriptorIndex := 6, attributes := #[] }, { accessFlags := 1, nameIndex := 5, descriptorIndex := 1010, attributes := #[] }, { accessFlags := 1, nameIndex := 497, descriptorIndex := 427, attributes := #[] }, { accessFlags := 2, nameIndex := 5, descriptorIndex := 29, attributes := #[] }, { accessFlags := 0, nameIndex := 494, descriptorIndex := 142, attributes := #[] }, { accessFlags := 8, nameIndex := 501, descriptorIndex := 391, attributes := #[] }] 49 2 #[1106, 1108, 575, 1110, 1112] #[{ accessFlags := 18, nameIndex := 13, descriptorIndex := 14, attributes := #[] }, { accessFlags := 18, nameIndex := 17, descriptorIndex := 18, attributes := #[] }, { accessFlags := 2, nameIndex := 21, descriptorIndex := 22, attributes := #[] }, { accessFlags := 2, nameIndex := 25, descriptorIndex := 26, attributes := #[] }, { accessFlags := 26, nameIndex := 1116, descriptorIndex := 1117, attributes := #[] }, { accessFlags := 24, nameIndex := 40, descriptorIndex := 26, attributes := #[] }, { accessFlags := 26, nameIndex := 1101, descriptorIndex := 1102, attributes := #[] }, { accessFlags := 26, nameIndex := 1121, descriptorIndex := 1122, attributes := #[] }, { accessFlags := 25, nameIndex := 599, descriptorIndex := 600, attributes := #[] }, { accessFlags := 24, nameIndex := 1125, descriptorIndex := 18, attributes := #[] }, { accessFlags := 24, nameIndex := 1127, descriptorIndex := 18, attributes := #[] }])
  fields := #[{ name := "value", type := (.array .byte), accessFlags := 18, slot := 0, constantValue := 0 }, { name := "coder", type := .byte, accessFlags := 18, slot := 1, constantValue := 0 }, { name := "hash", type := .int, accessFlags := 2, slot := 2, constantValue := 0 }, { name := "hashIsZero", type := .boolean, accessFlags := 2, slot := 3, constantValue := 0 }, { name := "serialVersionUID", type := .long, accessFlags := 26, slot := 0, constantValue := 0 }, { name := "COMPACT_STRINGS", type := .boolean, accessFlags := 24, slot := 1, constantValue := 0 }, { name := "serialPersistentFields", type := (.array (.object "java/io/ObjectStreamField")), accessFlags := 26, slot := 2, constantValue := 0 }, { name := "REPL", type := .char, accessFlags := 26, slot := 3, constantValue := 0 }, { name := "CASE_INSENSITIVE_ORDER", type := (.object "java/util/Comparator"), accessFlags := 25, slot := 4, constantValue := 0 }, { name := "LATIN1", type := .byte, accessFlags := 24, slot := 5, constantValue := 0 }, { name := "UTF16", type := .byte, accessFlags := 24, slot := 6, constantValue := 0 }]
  methods := #[k7m0, k7m1, k7m2, k7m3, k7m4, k7m5]
  instanceTypes := #[(.array .byte), .byte, .int, .boolean]
  staticTypes := #[.long, .boolean, (.array (.object "java/io/ObjectStreamField")), .char, (.object "java/util/Comparator"), .byte, .byte]
  resolved := Array.replicate 1451 none
  statics := some 0 }

def pool8 : Array CpInfo := pool [(3, .class_ 4), (0, u "java/lang/String"), (1, .class_ 8), (1, u "java/lang/Object"), (0, u "<init>"), (0, u "()V"), (0, .methodref 12 13), (0, .class_ 14), (0, .nameAndType 15 16), (0, u "java/lang/StringUTF16"), (0, u "newBytesLength"), (0, u "(I)I"), (3, .integer 1073741823), (23, .fieldref 12 45), (0, .nameAndType 46 47), (0, u "$assertionsDisabled"), (0, u "Z"), (0, .methodref 12 49), (0, .nameAndType 50 51), (0, u "length"), (0, u "([B)I"), (7, .fieldref 12 60), (0, .nameAndType 61 62), (0, u "HI_BYTE_SHIFT"), (0, u "I"), (0, .fieldref 12 64), (0, .nameAndType 65 62), (0, u "LO_BYTE_SHIFT"), (1, .methodref 12 68), (0, .nameAndType 69 70), (0, u "checkIndex"), (0, u "(I[B)V"), (0, .methodref 12 72), (0, .nameAndType 73 74), (0, u "getChar"), (0, u "([BI)C"), (32, .methodref 12 108), (0, .nameAndType 109 110), (0, u "newBytesFor"), (0, u "(I)[B"), (0, .methodref 12 112), (0, .nameAndType 113 114), (0, u "putChar"), (0, u "([BII)V"), (0, .methodref 12 116), (0, .nameAndType 117 118), (0, u "compress"), (0, u "([CI[BII)I"), (0, .methodref 12 120), (0, .nameAndType 121 122), (0, u "toBytes"), (0, u "([CII)[B"), (138, u "coderFromArrayLen"), (0, u "([BI)B"), (106, .class_ 371), (1, u "java/lang/StringUTF16$LinesSpliterator"), (20, u "charAt"), (21, .methodref 3 415), (0, .nameAndType 69 416), (0, u "(II)V"), (13, u "MAX_LENGTH"), (196, .class_ 628), (0, u "java/lang/StringUTF16$CodePointsSpliterator"), (0, .class_ 630), (0, u "java/lang/StringUTF16$CharsSpliterator")] 4

def k8m0 : Method := { name := "<init>", desc := "()V", sig := { parameters := [], returnType := none }, accessFlags := 0, code := none }
def k8c1 : Code := { maxStack := 1, maxLocals := 1, code := jdk_52_method_2_code, exceptionTable := #[], attributes := #[] }
def k8m1 : Method := { name := "newBytesFor", desc := "(I)[B", sig := { parameters := [.int], returnType := some (.array .byte) }, accessFlags := 9, code := some k8c1 }
def k8c2 : Code := { maxStack := 4, maxLocals := 1, code := jdk_52_method_3_code, exceptionTable := #[], attributes := #[] }
def k8m2 : Method := { name := "newBytesLength", desc := "(I)I", sig := { parameters := [.int], returnType := some .int }, accessFlags := 9, code := some k8c2 }
def k8c3 : Code := { maxStack := 4, maxLocals := 3, code := jdk_52_method_4_code, exceptionTable := #[], attributes := #[] }
def k8m3 : Method := { name := "putChar", desc := "([BII)V", sig := { parameters := [(.array .byte), .int, .int], returnType := none }, accessFlags := 8, code := some k8c3 }
def k8c4 : Code := { maxStack := 3, maxLocals := 2, code := jdk_52_method_5_code, exceptionTable := #[], attributes := #[] }
def k8m4 : Method := { name := "getChar", desc := "([BI)C", sig := { parameters := [(.array .byte), .int], returnType := some .char }, accessFlags := 8, code := some k8c4 }
def k8c5 : Code := { maxStack := 2, maxLocals := 1, code := jdk_52_method_6_code, exceptionTable := #[], attributes := #[] }
def k8m5 : Method := { name := "length", desc := "([B)I", sig := { parameters := [(.array .byte)], returnType := some .int }, accessFlags := 9, code := some k8c5 }
def k8c6 : Code := { maxStack := 4, maxLocals := 5, code := jdk_52_method_14_code, exceptionTable := #[], attributes := #[] }
def k8m6 : Method := { name := "toBytes", desc := "([CII)[B", sig := { parameters := [(.array .char), .int, .int], returnType := some (.array .byte) }, accessFlags := 9, code := some k8c6 }
def k8c7 : Code := { maxStack := 2, maxLocals := 2, code := jdk_52_method_15_code, exceptionTable := #[], attributes := #[] }
def k8m7 : Method := { name := "coderFromArrayLen", desc := "([BI)B", sig := { parameters := [(.array .byte), .int], returnType := some .byte }, accessFlags := 8, code := some k8c7 }
def k8c8 : Code := { maxStack := 5, maxLocals := 6, code := jdk_52_method_16_code, exceptionTable := #[], attributes := #[] }
def k8m8 : Method := { name := "compress", desc := "([CII)[B", sig := { parameters := [(.array .char), .int, .int], returnType := some (.array .byte) }, accessFlags := 9, code := some k8c8 }
def k8c9 : Code := { maxStack := 3, maxLocals := 7, code := jdk_52_method_21_code, exceptionTable := #[], attributes := #[] }
def k8m9 : Method := { name := "compress", desc := "([CI[BII)I", sig := { parameters := [(.array .char), .int, (.array .byte), .int, .int], returnType := some .int }, accessFlags := 9, code := some k8c9 }
def k8c10 : Code := { maxStack := 2, maxLocals := 2, code := jdk_52_method_83_code, exceptionTable := #[], attributes := #[] }
def k8m10 : Method := { name := "charAt", desc := "([BI)C", sig := { parameters := [(.array .byte), .int], returnType := some .char }, accessFlags := 9, code := some k8c10 }
def k8c11 : Code := { maxStack := 2, maxLocals := 2, code := jdk_52_method_91_code, exceptionTable := #[], attributes := #[] }
def k8m11 : Method := { name := "checkIndex", desc := "(I[B)V", sig := { parameters := [.int, (.array .byte)], returnType := none }, accessFlags := 9, code := some k8c11 }
/-- java/lang/StringUTF16 -/
def k8 : Class := { plain "java/lang/StringUTF16" (some 0) with
  accessFlags := 48
  interfaces := #[]
  cf := some (fileOf pool8 12 #[.nestMembers #[627, 629, 369]] #[{ accessFlags := 0, nameIndex := 9, descriptorIndex := 10, attributes := #[] }, { accessFlags := 9, nameIndex := 109, descriptorIndex := 110, attributes := #[] }, { accessFlags := 9, nameIndex := 15, descriptorIndex := 16, attributes := #[] }, { accessFlags := 8, nameIndex := 113, descriptorIndex := 114, attributes := #[] }, { accessFlags := 8, nameIndex := 73, descriptorIndex := 74, attributes := #[] }, { accessFlags := 9, nameIndex := 50, descriptorIndex := 51, attributes := #[] }, { accessFlags := 9, nameIndex := 121, descriptorIndex := 122, attributes := #[] }, { accessFlags := 8, nameIndex := 261, descriptorIndex := 262, attributes := #[] }, { accessFlags := 9, nameIndex := 117, descriptorIndex := 122, attributes := #[] }, { accessFlags := 9, nameIndex := 117, descriptorIndex := 118, attributes := #[] }, { accessFlags := 9, nameIndex := 392, descriptorIndex := 74, attributes := #[] }, { accessFlags := 9, nameIndex := 69, descriptorIndex := 70, attributes := #[] }] 48 6 #[] #[{ accessFlags := 26, nameIndex := 61, descriptorIndex := 62, attributes := #[] }, { accessFlags := 26, nameIndex := 65, descriptorIndex := 62, attributes := #[] }, { accessFlags := 24, nameIndex := 430, descriptorIndex := 62, attributes := #[] }, { accessFlags := 4120, nameIndex := 46, descriptorIndex := 47, attributes := #[] }])
  fields := #[{ name := "HI_BYTE_SHIFT", type := .int, accessFlags := 26, slot := 0, constantValue := 0 }, { name := "LO_BYTE_SHIFT", type := .int, accessFlags := 26, slot := 1, constantValue := 0 }, { name := "MAX_LENGTH", type := .int, accessFlags := 24, slot := 2, constantValue := 0 }, { name := "$assertionsDisabled", type := .boolean, accessFlags := 4120, slot := 3, constantValue := 0 }]
  methods := #[k8m0, k8m1, k8m2, k8m3, k8m4, k8m5, k8m6, k8m7, k8m8, k8m9, k8m10, k8m11]
  instanceTypes := #[]
  staticTypes := #[.int, .int, .int, .boolean]
  resolved := Array.replicate 635 none
  statics := some 1 }

def pool9 : Array CpInfo := pool [(2, .class_ 4), (1, u "java/lang/Object"), (0, u "<init>"), (0, u "()V"), (0, .interfaceMethodref 8 9), (0, .class_ 10), (0, .nameAndType 11 12), (0, u "java/lang/CharSequence"), (0, u "charAt"), (0, u "(I)C"), (0, .class_ 14), (0, u "com/example/lintwork/lintwork/input/AsciiDigits"), (2, u "isDigits"), (0, u "(Ljava/lang/CharSequence;II)Z")] 5

def k9m0 : Method := { name := "<init>", desc := "()V", sig := { parameters := [], returnType := none }, accessFlags := 2, code := none }
def k9c1 : Code := { maxStack := 2, maxLocals := 5, code := prog_34_method_2_code, exceptionTable := #[], attributes := #[] }
def k9m1 : Method := { name := "isDigits", desc := "(Ljava/lang/CharSequence;II)Z", sig := { parameters := [(.object "java/lang/CharSequence"), .int, .int], returnType := some .boolean }, accessFlags := 9, code := some k9c1 }
/-- com/example/lintwork/lintwork/input/AsciiDigits -/
def k9 : Class := { plain "com/example/lintwork/lintwork/input/AsciiDigits" (some 0) with
  accessFlags := 49
  interfaces := #[]
  cf := some (fileOf pool9 13 #[] #[{ accessFlags := 2, nameIndex := 5, descriptorIndex := 6, attributes := #[] }, { accessFlags := 9, nameIndex := 17, descriptorIndex := 18, attributes := #[] }] 49 2 #[] #[])
  fields := #[]
  methods := #[k9m0, k9m1]
  instanceTypes := #[]
  staticTypes := #[]
  resolved := Array.replicate 24 none
  statics := none }

def pool10 : Array CpInfo := pool [(2, .class_ 4), (1, u "java/lang/Object"), (0, u "<init>"), (0, u "()V"), (17, .class_ 26), (1, u "jdk/internal/util/Preconditions"), (6, u "checkIndex"), (21, .class_ 56), (0, u "jdk/internal/util/Preconditions$4"), (57, .class_ 115), (0, u "jdk/internal/util/Preconditions$1"), (7, u "SIOOBE_FORMATTER"), (0, u "Ljava/util/function/BiFunction;"), (0, .class_ 126), (0, u "jdk/internal/util/Preconditions$2"), (3, u "AIOOBE_FORMATTER"), (0, .class_ 132), (0, u "jdk/internal/util/Preconditions$3"), (3, u "IOOBE_FORMATTER"), (41, u "(IILjava/util/function/BiFunction;)I")] 15

def k10m0 : Method := { name := "<init>", desc := "()V", sig := { parameters := [], returnType := none }, accessFlags := 1, code := none }
def k10c1 : Code := { maxStack := 3, maxLocals := 3, code := jdk_41_method_11_code, exceptionTable := #[], attributes := #[] }
def k10m1 : Method := { name := "checkIndex", desc := "(IILjava/util/function/BiFunction;)I", sig := { parameters := [.int, .int, (.object "java/util/function/BiFunction")], returnType := some .int }, accessFlags := 9, code := some k10c1 }
/-- jdk/internal/util/Preconditions -/
def k10 : Class := { plain "jdk/internal/util/Preconditions" (some 0) with
  accessFlags := 33
  interfaces := #[]
  cf := some (fileOf pool10 24 #[.nestMembers #[55, 131, 125, 114]] #[{ accessFlags := 1, nameIndex := 5, descriptorIndex := 6, attributes := #[] }, { accessFlags := 9, nameIndex := 33, descriptorIndex := 178, attributes := #[] }] 33 2 #[] #[{ accessFlags := 25, nameIndex := 123, descriptorIndex := 124, attributes := #[] }, { accessFlags := 25, nameIndex := 130, descriptorIndex := 124, attributes := #[] }, { accessFlags := 25, nameIndex := 136, descriptorIndex := 124, attributes := #[] }])
  fields := #[{ name := "SIOOBE_FORMATTER", type := (.object "java/util/function/BiFunction"), accessFlags := 25, slot := 0, constantValue := 0 }, { name := "AIOOBE_FORMATTER", type := (.object "java/util/function/BiFunction"), accessFlags := 25, slot := 1, constantValue := 0 }, { name := "IOOBE_FORMATTER", type := (.object "java/util/function/BiFunction"), accessFlags := 25, slot := 2, constantValue := 0 }]
  methods := #[k10m0, k10m1]
  instanceTypes := #[]
  staticTypes := #[(.object "java/util/function/BiFunction"), (.object "java/util/function/BiFunction"), (.object "java/util/function/BiFunction")]
  resolved := Array.replicate 194 none
  statics := some 2 }

def pool11 : Array CpInfo := pool [(1, .class_ 2), (0, u "java/lang/String"), (1, .class_ 6), (1, u "java/lang/Object"), (0, u "<init>"), (0, u "()V"), (0, .methodref 1 10), (0, .nameAndType 11 12), (0, u "checkIndex"), (0, u "(II)V"), (1, .class_ 16), (1, u "java/lang/StringLatin1"), (36, u "([BI)C"), (67, u "$assertionsDisabled"), (0, u "Z"), (98, .class_ 223), (1, u "java/lang/StringLatin1$LinesSpliterator"), (28, u "charAt"), (137, .class_ 391), (0, u "java/lang/StringLatin1$CharsSpliterator")] 3

def k11m0 : Method := { name := "<init>", desc := "()V", sig := { parameters := [], returnType := none }, accessFlags := 0, code := none }
def k11c1 : Code := { maxStack := 2, maxLocals := 2, code := jdk_43_method_2_code, exceptionTable := #[], attributes := #[] }
def k11m1 : Method := { name := "charAt", desc := "([BI)C", sig := { parameters := [(.array .byte), .int], returnType := some .char }, accessFlags := 9, code := some k11c1 }
/-- java/lang/StringLatin1 -/
def k11 : Class := { plain "java/lang/StringLatin1" (some 0) with
  accessFlags := 48
  interfaces := #[]
  cf := some (fileOf pool11 14 #[.nestMembers #[390, 221]] #[{ accessFlags := 0, nameIndex := 7, descriptorIndex := 8, attributes := #[] }, { accessFlags := 9, nameIndex := 252, descriptorIndex := 53, attributes := #[] }] 48 4 #[] #[{ accessFlags := 4120, nameIndex := 121, descriptorIndex := 122, attributes := #[] }])
  fields := #[{ name := "$assertionsDisabled", type := .boolean, accessFlags := 4120, slot := 0, constantValue := 0 }]
  methods := #[k11m0, k11m1]
  instanceTypes := #[]
  staticTypes := #[.boolean]
  resolved := Array.replicate 395 none
  statics := none }

def pool12 : Array CpInfo := pool [(9, u "<init>"), (6, .class_ 18), (1, u "java/lang/Object"), (0, u "()V"), (1, .class_ 23), (1, u "jdk/internal/util/ArraysSupport"), (0, u "LOG2_ARRAY_LONG_INDEX_SCALE"), (0, u "I"), (2, u "U"), (0, u "Ljdk/internal/misc/Unsafe;"), (8, u "BIG_ENDIAN"), (0, u "Z"), (8, u "LOG2_BYTE_BIT_SIZE"), (4, u "LOG2_ARRAY_INT_INDEX_SCALE"), (54, u "JLA"), (0, u "Ljdk/internal/access/JavaLangAccess;"), (11, u "LOG2_ARRAY_BOOLEAN_INDEX_SCALE"), (9, u "LOG2_ARRAY_BYTE_INDEX_SCALE"), (5, u "LOG2_ARRAY_CHAR_INDEX_SCALE"), (5, u "LOG2_ARRAY_SHORT_INDEX_SCALE"), (18, u "LOG2_ARRAY_FLOAT_INDEX_SCALE"), (24, u "LOG2_ARRAY_DOUBLE_INDEX_SCALE"), (89, u "T_BOOLEAN"), (2, u "T_CHAR"), (1, u "T_FLOAT"), (1, u "T_DOUBLE"), (1, u "T_BYTE"), (1, u "T_SHORT"), (1, u "T_INT"), (1, u "T_LONG"), (1, u "SOFT_MAX_ARRAY_LENGTH")] 83

def k12m0 : Method := { name := "<init>", desc := "()V", sig := { parameters := [], returnType := none }, accessFlags := 2, code := none }
/-- jdk/internal/util/ArraysSupport -/
def k12 : Class := { plain "jdk/internal/util/ArraysSupport" (some 0) with
  accessFlags := 33
  interfaces := #[]
  cf := some (fileOf pool12 21 #[] #[{ accessFlags := 2, nameIndex := 9, descriptorIndex := 19, attributes := #[] }] 33 16 #[] #[{ accessFlags := 24, nameIndex := 28, descriptorIndex := 29, attributes := #[] }, { accessFlags := 26, nameIndex := 38, descriptorIndex := 39, attributes := #[] }, { accessFlags := 25, nameIndex := 121, descriptorIndex := 25, attributes := #[] }, { accessFlags := 25, nameIndex := 131, descriptorIndex := 25, attributes := #[] }, { accessFlags := 25, nameIndex := 137, descriptorIndex := 25, attributes := #[] }, { accessFlags := 25, nameIndex := 143, descriptorIndex := 25, attributes := #[] }, { accessFlags := 25, nameIndex := 53, descriptorIndex := 25, attributes := #[] }, { accessFlags := 25, nameIndex := 24, descriptorIndex := 25, attributes := #[] }, { accessFlags := 25, nameIndex := 162, descriptorIndex := 25, attributes := #[] }, { accessFlags := 25, nameIndex := 187, descriptorIndex := 25, attributes := #[] }, { accessFlags := 26, nameIndex := 48, descriptorIndex := 25, attributes := #[] }, { accessFlags := 25, nameIndex := 277, descriptorIndex := 25, attributes := #[] }, { accessFlags := 25, nameIndex := 280, descriptorIndex := 25, attributes := #[] }, { accessFlags := 25, nameIndex := 282, descriptorIndex := 25, attributes := #[] }, { accessFlags := 25, nameIndex := 284, descriptorIndex := 25, attributes := #[] }, { accessFlags := 25, nameIndex := 286, descriptorIndex := 25, attributes := #[] }, { accessFlags := 25, nameIndex := 288, descriptorIndex := 25, attributes := #[] }, { accessFlags := 25, nameIndex := 290, descriptorIndex := 25, attributes := #[] }, { accessFlags := 25, nameIndex := 292, descriptorIndex := 25, attributes := #[] }, { accessFlags := 26, nameIndex := 108, descriptorIndex := 109, attributes := #[] }, { accessFlags := 25, nameIndex := 294, descriptorIndex := 25, attributes := #[] }])
  fields := #[{ name := "U", type := (.object "jdk/internal/misc/Unsafe"), accessFlags := 24, slot := 0, constantValue := 0 }, { name := "BIG_ENDIAN", type := .boolean, accessFlags := 26, slot := 1, constantValue := 0 }, { name := "LOG2_ARRAY_BOOLEAN_INDEX_SCALE", type := .int, accessFlags := 25, slot := 2, constantValue := 0 }, { name := "LOG2_ARRAY_BYTE_INDEX_SCALE", type := .int, accessFlags := 25, slot := 3, constantValue := 0 }, { name := "LOG2_ARRAY_CHAR_INDEX_SCALE", type := .int, accessFlags := 25, slot := 4, constantValue := 0 }, { name := "LOG2_ARRAY_SHORT_INDEX_SCALE", type := .int, accessFlags := 25, slot := 5, constantValue := 0 }, { name := "LOG2_ARRAY_INT_INDEX_SCALE", type := .int, accessFlags := 25, slot := 6, constantValue := 0 }, { name := "LOG2_ARRAY_LONG_INDEX_SCALE", type := .int, accessFlags := 25, slot := 7, constantValue := 0 }, { name := "LOG2_ARRAY_FLOAT_INDEX_SCALE", type := .int, accessFlags := 25, slot := 8, constantValue := 0 }, { name := "LOG2_ARRAY_DOUBLE_INDEX_SCALE", type := .int, accessFlags := 25, slot := 9, constantValue := 0 }, { name := "LOG2_BYTE_BIT_SIZE", type := .int, accessFlags := 26, slot := 10, constantValue := 0 }, { name := "T_BOOLEAN", type := .int, accessFlags := 25, slot := 11, constantValue := 0 }, { name := "T_CHAR", type := .int, accessFlags := 25, slot := 12, constantValue := 0 }, { name := "T_FLOAT", type := .int, accessFlags := 25, slot := 13, constantValue := 0 }, { name := "T_DOUBLE", type := .int, accessFlags := 25, slot := 14, constantValue := 0 }, { name := "T_BYTE", type := .int, accessFlags := 25, slot := 15, constantValue := 0 }, { name := "T_SHORT", type := .int, accessFlags := 25, slot := 16, constantValue := 0 }, { name := "T_INT", type := .int, accessFlags := 25, slot := 17, constantValue := 0 }, { name := "T_LONG", type := .int, accessFlags := 25, slot := 18, constantValue := 0 }, { name := "JLA", type := (.object "jdk/internal/access/JavaLangAccess"), accessFlags := 26, slot := 19, constantValue := 0 }, { name := "SOFT_MAX_ARRAY_LENGTH", type := .int, accessFlags := 25, slot := 20, constantValue := 0 }]
  methods := #[k12m0]
  instanceTypes := #[]
  staticTypes := #[(.object "jdk/internal/misc/Unsafe"), .boolean, .int, .int, .int, .int, .int, .int, .int, .int, .int, .int, .int, .int, .int, .int, .int, .int, .int, (.object "jdk/internal/access/JavaLangAccess"), .int]
  resolved := Array.replicate 378 none
  statics := none }

def pool13 : Array CpInfo := pool [(1, u "java/lang/Cloneable"), (0, .class_ 1), (0, u "java/lang/Object"), (0, .class_ 3)] 3

/-- java/lang/Cloneable -/
def k13 : Class := { plain "java/lang/Cloneable" (some 0) with
  accessFlags := 1537
  interfaces := #[]
  cf := some (fileOf pool13 2 #[] #[] 1537 4 #[] #[])
  fields := #[]
  methods := #[]
  instanceTypes := #[]
  staticTypes := #[]
  resolved := Array.replicate 8 none
  statics := none }

/-- the primitive byte -/
def k14 : Class := { plain "byte" none with kind := .primitive 'B', accessFlags := 0x411 }
/-- [B -/
def k15 : Class := { plain "[B" (some 0) with kind := .array 14 .byte, interfaces := #[13, 2], accessFlags := 1041 }

/-- the primitive char -/
def k16 : Class := { plain "char" none with kind := .primitive 'C', accessFlags := 0x411 }
/-- [C -/
def k17 : Class := { plain "[C" (some 0) with kind := .array 16 .char, interfaces := #[13, 2], accessFlags := 1041 }

/-- the primitive int -/
def k18 : Class := { plain "int" none with kind := .primitive 'I', accessFlags := 0x411 }
/-- [I -/
def k19 : Class := { plain "[I" (some 0) with kind := .array 18 .int, interfaces := #[13, 2], accessFlags := 1041 }

def heap : Heap := #[{ cls := 7, slots := #[.long 0, .int 1, .null, .int 0, .null, .int 0, .int 0], vm := .statics 7 },
  { cls := 8, slots := #[.int 0, .int 8, .int 0, .int 1], vm := .statics 8 },
  { cls := 10, slots := #[.null, .null, .null], vm := .statics 10 }]
def classes : Array Class := #[k0, k1, k2, k3, k4, k5, k6, k7, k8, k9, k10, k11, k12, k13, k14, k15, k16, k17, k18, k19]
def interned : List (Array UInt16 × Addr) := []
def slotsUsed : Nat := 14
def theMethod : MethodId := ⟨1, 1⟩
def args0 : Array Value := #[.int 5, .int 6, .int 7]
def aboutOver (below : List Frame) : State where
  vm := { classes := classes, interned := interned.toArray }
  heap := heap
  slotsUsed := slotsUsed
  threads := #[{ frames := .invoking theMethod args0 :: below }]
def below0 : List Frame := [.native { method := ⟨0, 0⟩, args := #[] }]
def about1 : State := aboutOver below0
def p0 : Program := .bare "" "" ""
def e0 : Env := launch0.env 0 0 0
theorem w_frames : about1.frames = Frame.invoking theMethod args0 :: below0 := rfl
set_option maxRecDepth 65536 in
theorem w_args : argsFit about1.vm theMethod args0 = true := by decide +kernel
set_option maxRecDepth 65536 in
theorem w_heap : heapFits about1 = true := by decide +kernel
set_option maxRecDepth 65536 in
theorem w_runnable : about1.curStatus? = some .runnable := by decide +kernel
set_option maxRecDepth 65536 in
theorem w_alone : about1.alone = true := by decide +kernel
set_option maxRecDepth 65536 in
theorem w_named : about1.methodNamed? x = some theMethod := by decide +kernel
set_option maxRecDepth 65536 in
theorem w_hears : about1.hears theMethod below0 = true := by decide +kernel
set_option maxRecDepth 65536 in
theorem w_ripe : about1.ripe theMethod args0 below0 = true := by decide +kernel
theorem w_running : about1.status = .running := rfl
set_option maxRecDepth 65536 in
theorem w_room : about1.hasRoom e0.platform room_1 = true :=
  launch0.hasRoom_least _ room_1 (by decide +kernel) (by decide +kernel) (by decide +kernel) (by decide +kernel) (by decide +kernel) (by decide +kernel)
theorem allAtoms_all (ts : List Jvm.Cond) (a : Array Jvm.Value) (st : Jvm.State) : (allAtoms ts).before a st = ts.all (fun c => c.before a st) := by
  induction ts with
  | nil => rfl
  | cons c t ih =>
    show (Jvm.Cond.and c (allAtoms t)).before a st = _
    rw [Jvm.Cond.before_and, ih, List.all_cons]
def words1 : List Jvm.Cond := Jvm.Cond.code x code maxLocals ret :: tables_1
/-- a 'code' word, met by the world's own term for the bytes: nothing is compared byte by byte -/
theorem code_word {y : MethodName} {bytes : ByteArray} {mx : Nat} {rt : Option FieldType} {a : Array Value} {s : State} {m : MethodId} {meth : Method} {c : Code} (h1 : s.methodNamed? y = some m) (h2 : s.vm.method? m = some meth) (h3 : meth.code = some c) (h4 : c.code = bytes)
    (h5 : (c.maxLocals == mx && c.exceptionTable.isEmpty && decide (c.maxStack ≤ mostOperands) && decide (meth.sig.returnType = rt) && !meth.locks && decide (parseMethodDescriptor y.desc = some meth.sig)) = true) : (Jvm.Cond.code y bytes mx rt).before a s = true := by
  simp only [Bool.and_eq_true, beq_iff_eq, Bool.not_eq_true', decide_eq_true_eq] at h5
  obtain ⟨⟨⟨⟨⟨g1, g2⟩, g3⟩, g4⟩, g5⟩, g6⟩ := h5
  simp [Cond.before, Cond.holds, Cond.value, h1, h2, h3, h4, g1, g2, g3, g4, g5, g6]
def isCode : Jvm.Cond → Bool
  | .code _ _ _ _ => true
  | _ => false
theorem all_split {L : List Jvm.Cond} {P : Jvm.Cond → Bool} (h1 : L.all (fun c => isCode c || P c) = true) (h2 : ∀ c ∈ L.filter isCode, P c = true) : L.all P = true := by
  refine List.all_eq_true.mpr fun c hc => ?_
  have h := List.all_eq_true.mp h1 c hc
  rcases Bool.eq_false_or_eq_true (isCode c) with hi | hi
  · exact h2 c (List.mem_filter.mpr ⟨hc, hi⟩)
  · simpa [hi] using h
set_option maxRecDepth 65536 in
theorem w_c0 : (Jvm.Cond.code x code maxLocals ret).before args0 about1 = true := code_word (m := ⟨1, 1⟩) (meth := k1m1) (c := k1c1) (by decide +kernel) rfl rfl rfl (by decide +kernel)
set_option maxRecDepth 65536 in
theorem w_c1 : (Jvm.Cond.code ({ cls := "java/lang/String", name := "<init>", desc := "([C)V" } : Jvm.MethodName) jdk_42_method_3_code (2 : Nat) (Option.none : Option Jvm.ClassFile.FieldType)).before args0 about1 = true := code_word (m := ⟨7, 1⟩) (meth := k7m1) (c := k7c1) (by decide +kernel) rfl rfl rfl (by decide +kernel)
set_option maxRecDepth 65536 in
theorem w_c2 : (Jvm.Cond.code ({ cls := "java/lang/String", name := "<init>", desc := "([CIILjava/lang/Void;)V" } : Jvm.MethodName) jdk_42_method_149_code (6 : Nat) (Option.none : Option Jvm.ClassFile.FieldType)).before args0 about1 = true := code_word (m := ⟨7, 3⟩) (meth := k7m3) (c := k7c3) (by decide +kernel) rfl rfl rfl (by decide +kernel)
set_option maxRecDepth 65536 in
theorem w_c3 : (Jvm.Cond.code ({ cls := "java/lang/Object", name := "<init>", desc := "()V" } : Jvm.MethodName) object_method_1_code (1 : Nat) (Option.none : Option Jvm.ClassFile.FieldType)).before args0 about1 = true := code_word (m := ⟨0, 0⟩) (meth := k0m0) (c := k0c0) (by decide +kernel) rfl rfl rfl (by decide +kernel)
set_option maxRecDepth 65536 in
theorem w_c4 : (Jvm.Cond.code ({ cls := "java/lang/StringUTF16", name := "compress", desc := "([CII)[B" } : Jvm.MethodName) jdk_52_method_16_code (6 : Nat) (Option.some (Jvm.ClassFile.FieldType.array Jvm.ClassFile.FieldType.byte))).before args0 about1 = true := code_word (m := ⟨8, 8⟩) (meth := k8m8) (c := k8c8) (by decide +kernel) rfl rfl rfl (by decide +kernel)
set_option maxRecDepth 65536 in
theorem w_c5 : (Jvm.Cond.code ({ cls := "java/lang/StringUTF16", name := "compress", desc := "([CI[BII)I" } : Jvm.MethodName) jdk_52_method_21_code (7 : Nat) (Option.some Jvm.ClassFile.FieldType.int)).before args0 about1 = true := code_word (m := ⟨8, 9⟩) (meth := k8m9) (c := k8c9) (by decide +kernel) rfl rfl rfl (by decide +kernel)
set_option maxRecDepth 65536 in
theorem w_c6 : (Jvm.Cond.code ({ cls := "java/lang/StringUTF16", name := "coderFromArrayLen", desc := "([BI)B" } : Jvm.MethodName) jdk_52_method_15_code (2 : Nat) (Option.some Jvm.ClassFile.FieldType.byte)).before args0 about1 = true := code_word (m := ⟨8, 7⟩) (meth := k8m7) (c := k8c7) (by decide +kernel) rfl rfl rfl (by decide +kernel)
set_option maxRecDepth 65536 in
theorem w_c7 : (Jvm.Cond.code ({ cls := "com/example/lintwork/lintwork/input/AsciiDigits", name := "isDigits", desc := "(Ljava/lang/CharSequence;II)Z" } : Jvm.MethodName) prog_34_method_2_code (5 : Nat) (Option.some Jvm.ClassFile.FieldType.boolean)).before args0 about1 = true := code_word (m := ⟨9, 1⟩) (meth := k9m1) (c := k9c1) (by decide +kernel) rfl rfl rfl (by decide +kernel)
set_option maxRecDepth 65536 in
theorem w_c8 : (Jvm.Cond.code ({ cls := "java/lang/StringUTF16", name := "toBytes", desc := "([CII)[B" } : Jvm.MethodName) jdk_52_method_14_code (5 : Nat) (Option.some (Jvm.ClassFile.FieldType.array Jvm.ClassFile.FieldType.byte))).before args0 about1 = true := code_word (m := ⟨8, 6⟩) (meth := k8m6) (c := k8c6) (by decide +kernel) rfl rfl rfl (by decide +kernel)
set_option maxRecDepth 65536 in
theorem w_c9 : (Jvm.Cond.code ({ cls := "java/lang/StringUTF16", name := "newBytesFor", desc := "(I)[B" } : Jvm.MethodName) jdk_52_method_2_code (1 : Nat) (Option.some (Jvm.ClassFile.FieldType.array Jvm.ClassFile.FieldType.byte))).before args0 about1 = true := code_word (m := ⟨8, 1⟩) (meth := k8m1) (c := k8c1) (by decide +kernel) rfl rfl rfl (by decide +kernel)
set_option maxRecDepth 65536 in
theorem w_c10 : (Jvm.Cond.code ({ cls := "java/lang/StringUTF16", name := "newBytesLength", desc := "(I)I" } : Jvm.MethodName) jdk_52_method_3_code (1 : Nat) (Option.some Jvm.ClassFile.FieldType.int)).before args0 about1 = true := code_word (m := ⟨8, 2⟩) (meth := k8m2) (c := k8c2) (by decide +kernel) rfl rfl rfl (by decide +kernel)
set_option maxRecDepth 65536 in
theorem w_c11 : (Jvm.Cond.code ({ cls := "java/lang/StringUTF16", name := "putChar", desc := "([BII)V" } : Jvm.MethodName) jdk_52_method_4_code (3 : Nat) (Option.none : Option Jvm.ClassFile.FieldType)).before args0 about1 = true := code_word (m := ⟨8, 3⟩) (meth := k8m3) (c := k8c3) (by decide +kernel) rfl rfl rfl (by decide +kernel)
set_option maxRecDepth 65536 in
theorem w_c12 : (Jvm.Cond.code ({ cls := "java/lang/StringUTF16", name := "getChar", desc := "([BI)C" } : Jvm.MethodName) jdk_52_method_5_code (2 : Nat) (Option.some Jvm.ClassFile.FieldType.char)).before args0 about1 = true := code_word (m := ⟨8, 4⟩) (meth := k8m4) (c := k8c4) (by decide +kernel) rfl rfl rfl (by decide +kernel)
set_option maxRecDepth 65536 in
theorem w_c13 : (Jvm.Cond.code ({ cls := "java/lang/String", name := "charAt", desc := "(I)C" } : Jvm.MethodName) jdk_42_method_56_code (2 : Nat) (Option.some Jvm.ClassFile.FieldType.char)).before args0 about1 = true := code_word (m := ⟨7, 2⟩) (meth := k7m2) (c := k7c2) (by decide +kernel) rfl rfl rfl (by decide +kernel)
set_option maxRecDepth 65536 in
theorem w_c14 : (Jvm.Cond.code ({ cls := "java/lang/String", name := "isLatin1", desc := "()Z" } : Jvm.MethodName) jdk_42_method_154_code (1 : Nat) (Option.some Jvm.ClassFile.FieldType.boolean)).before args0 about1 = true := code_word (m := ⟨7, 4⟩) (meth := k7m4) (c := k7c4) (by decide +kernel) rfl rfl rfl (by decide +kernel)
set_option maxRecDepth 65536 in
theorem w_c15 : (Jvm.Cond.code ({ cls := "java/lang/StringUTF16", name := "charAt", desc := "([BI)C" } : Jvm.MethodName) jdk_52_method_83_code (2 : Nat) (Option.some Jvm.ClassFile.FieldType.char)).before args0 about1 = true := code_word (m := ⟨8, 10⟩) (meth := k8m10) (c := k8c10) (by decide +kernel) rfl rfl rfl (by decide +kernel)
set_option maxRecDepth 65536 in
theorem w_c16 : (Jvm.Cond.code ({ cls := "java/lang/StringUTF16", name := "checkIndex", desc := "(I[B)V" } : Jvm.MethodName) jdk_52_method_91_code (2 : Nat) (Option.none : Option Jvm.ClassFile.FieldType)).before args0 about1 = true := code_word (m := ⟨8, 11⟩) (meth := k8m11) (c := k8c11) (by decide +kernel) rfl rfl rfl (by decide +kernel)
set_option maxRecDepth 65536 in
theorem w_c17 : (Jvm.Cond.code ({ cls := "java/lang/StringUTF16", name := "length", desc := "([B)I" } : Jvm.MethodName) jdk_52_method_6_code (1 : Nat) (Option.some Jvm.ClassFile.FieldType.int)).before args0 about1 = true := code_word (m := ⟨8, 5⟩) (meth := k8m5) (c := k8c5) (by decide +kernel) rfl rfl rfl (by decide +kernel)
set_option maxRecDepth 65536 in
theorem w_c18 : (Jvm.Cond.code ({ cls := "java/lang/String", name := "checkIndex", desc := "(II)V" } : Jvm.MethodName) jdk_42_method_155_code (2 : Nat) (Option.none : Option Jvm.ClassFile.FieldType)).before args0 about1 = true := code_word (m := ⟨7, 5⟩) (meth := k7m5) (c := k7c5) (by decide +kernel) rfl rfl rfl (by decide +kernel)
set_option maxRecDepth 65536 in
theorem w_c19 : (Jvm.Cond.code ({ cls := "jdk/internal/util/Preconditions", name := "checkIndex", desc := "(IILjava/util/function/BiFunction;)I" } : Jvm.MethodName) jdk_41_method_11_code (3 : Nat) (Option.some Jvm.ClassFile.FieldType.int)).before args0 about1 = true := code_word (m := ⟨10, 1⟩) (meth := k10m1) (c := k10c1) (by decide +kernel) rfl rfl rfl (by decide +kernel)
set_option maxRecDepth 65536 in
theorem w_c20 : (Jvm.Cond.code ({ cls := "com/example/lintwork/lintwork/input/AsciiDigitsIsDigitsPinLaw", name := "fits", desc := "(CIII)Z" } : Jvm.MethodName) method_4_code (4 : Nat) (Option.some Jvm.ClassFile.FieldType.boolean)).before args0 about1 = true := code_word (m := ⟨1, 3⟩) (meth := k1m3) (c := k1c3) (by decide +kernel) rfl rfl rfl (by decide +kernel)
set_option maxRecDepth 65536 in
theorem w_c21 : (Jvm.Cond.code ({ cls := "com/example/lintwork/lintwork/input/AsciiDigitsIsDigitsPinLaw", name := "asciiDigit", desc := "(C)Z" } : Jvm.MethodName) method_3_code (2 : Nat) (Option.some Jvm.ClassFile.FieldType.boolean)).before args0 about1 = true := code_word (m := ⟨1, 2⟩) (meth := k1m2) (c := k1c2) (by decide +kernel) rfl rfl rfl (by decide +kernel)
set_option maxRecDepth 65536 in
theorem w_c22 : (Jvm.Cond.code ({ cls := "java/lang/StringLatin1", name := "charAt", desc := "([BI)C" } : Jvm.MethodName) jdk_43_method_2_code (2 : Nat) (Option.some Jvm.ClassFile.FieldType.char)).before args0 about1 = true := code_word (m := ⟨11, 1⟩) (meth := k11m1) (c := k11c1) (by decide +kernel) rfl rfl rfl (by decide +kernel)
def codes1 : List Jvm.Cond := [Jvm.Cond.code x code maxLocals ret, Jvm.Cond.code ({ cls := "java/lang/String", name := "<init>", desc := "([C)V" } : Jvm.MethodName) jdk_42_method_3_code (2 : Nat) (Option.none : Option Jvm.ClassFile.FieldType), Jvm.Cond.code ({ cls := "java/lang/String", name := "<init>", desc := "([CIILjava/lang/Void;)V" } : Jvm.MethodName) jdk_42_method_149_code (6 : Nat) (Option.none : Option Jvm.ClassFile.FieldType), Jvm.Cond.code ({ cls := "java/lang/Object", name := "<init>", desc := "()V" } : Jvm.MethodName) object_method_1_code (1 : Nat) (Option.none : Option Jvm.ClassFile.FieldType), Jvm.Cond.code ({ cls := "java/lang/StringUTF16", name := "compress", desc := "([CII)[B" } : Jvm.MethodName) jdk_52_method_16_code (6 : Nat) (Option.some (Jvm.ClassFile.FieldType.array Jvm.ClassFile.FieldType.byte)), Jvm.Cond.code ({ cls := "java/lang/StringUTF16", name := "compress", desc := "([CI[BII)I" } : Jvm.MethodName) jdk_52_method_21_code (7 : Nat) (Option.some Jvm.ClassFile.FieldType.int), Jvm.Cond.code ({ cls := "java/lang/StringUTF16", name := "coderFromArrayLen", desc := "([BI)B" } : Jvm.MethodName) jdk_52_method_15_code (2 : Nat) (Option.some Jvm.ClassFile.FieldType.byte), Jvm.Cond.code ({ cls := "com/example/lintwork/lintwork/input/AsciiDigits", name := "isDigits", desc := "(Ljava/lang/CharSequence;II)Z" } : Jvm.MethodName) prog_34_method_2_code (5 : Nat) (Option.some Jvm.ClassFile.FieldType.boolean), Jvm.Cond.code ({ cls := "java/lang/StringUTF16", name := "toBytes", desc := "([CII)[B" } : Jvm.MethodName) jdk_52_method_14_code (5 : Nat) (Option.some (Jvm.ClassFile.FieldType.array Jvm.ClassFile.FieldType.byte)), Jvm.Cond.code ({ cls := "java/lang/StringUTF16", name := "newBytesFor", desc := "(I)[B" } : Jvm.MethodName) jdk_52_method_2_code (1 : Nat) (Option.some (Jvm.ClassFile.FieldType.array Jvm.ClassFile.FieldType.byte)), Jvm.Cond.code ({ cls := "java/lang/StringUTF16", name := "newBytesLength", desc := "(I)I" } : Jvm.MethodName) jdk_52_method_3_code (1 : Nat) (Option.some Jvm.ClassFile.FieldType.int), Jvm.Cond.code ({ cls := "java/lang/StringUTF16", name := "putChar", desc := "([BII)V" } : Jvm.MethodName) jdk_52_method_4_code (3 : Nat) (Option.none : Option Jvm.ClassFile.FieldType), Jvm.Cond.code ({ cls := "java/lang/StringUTF16", name := "getChar", desc := "([BI)C" } : Jvm.MethodName) jdk_52_method_5_code (2 : Nat) (Option.some Jvm.ClassFile.FieldType.char), Jvm.Cond.code ({ cls := "java/lang/String", name := "charAt", desc := "(I)C" } : Jvm.MethodName) jdk_42_method_56_code (2 : Nat) (Option.some Jvm.ClassFile.FieldType.char), Jvm.Cond.code ({ cls := "java/lang/String", name := "isLatin1", desc := "()Z" } : Jvm.MethodName) jdk_42_method_154_code (1 : Nat) (Option.some Jvm.ClassFile.FieldType.boolean), Jvm.Cond.code ({ cls := "java/lang/StringUTF16", name := "charAt", desc := "([BI)C" } : Jvm.MethodName) jdk_52_method_83_code (2 : Nat) (Option.some Jvm.ClassFile.FieldType.char), Jvm.Cond.code ({ cls := "java/lang/StringUTF16", name := "checkIndex", desc := "(I[B)V" } : Jvm.MethodName) jdk_52_method_91_code (2 : Nat) (Option.none : Option Jvm.ClassFile.FieldType), Jvm.Cond.code ({ cls := "java/lang/StringUTF16", name := "length", desc := "([B)I" } : Jvm.MethodName) jdk_52_method_6_code (1 : Nat) (Option.some Jvm.ClassFile.FieldType.int), Jvm.Cond.code ({ cls := "java/lang/String", name := "checkIndex", desc := "(II)V" } : Jvm.MethodName) jdk_42_method_155_code (2 : Nat) (Option.none : Option Jvm.ClassFile.FieldType), Jvm.Cond.code ({ cls := "jdk/internal/util/Preconditions", name := "checkIndex", desc := "(IILjava/util/function/BiFunction;)I" } : Jvm.MethodName) jdk_41_method_11_code (3 : Nat) (Option.some Jvm.ClassFile.FieldType.int), Jvm.Cond.code ({ cls := "com/example/lintwork/lintwork/input/AsciiDigitsIsDigitsPinLaw", name := "fits", desc := "(CIII)Z" } : Jvm.MethodName) method_4_code (4 : Nat) (Option.some Jvm.ClassFile.FieldType.boolean), Jvm.Cond.code ({ cls := "com/example/lintwork/lintwork/input/AsciiDigitsIsDigitsPinLaw", name := "asciiDigit", desc := "(C)Z" } : Jvm.MethodName) method_3_code (2 : Nat) (Option.some Jvm.ClassFile.FieldType.boolean), Jvm.Cond.code ({ cls := "java/lang/StringLatin1", name := "charAt", desc := "([BI)C" } : Jvm.MethodName) jdk_43_method_2_code (2 : Nat) (Option.some Jvm.ClassFile.FieldType.char)]
set_option maxRecDepth 65536 in
theorem codes_eq : words1.filter isCode = codes1 := rfl
theorem w_codes : ∀ c ∈ words1.filter isCode, c.before args0 about1 = true := by
  rw [codes_eq]
  intro c hc
  simp only [codes1, List.mem_cons, List.not_mem_nil, or_false] at hc
  rcases hc with rfl | rfl | rfl | rfl | rfl | rfl | rfl | rfl | rfl | rfl | rfl | rfl | rfl | rfl | rfl | rfl | rfl | rfl | rfl | rfl | rfl | rfl | rfl
  · exact w_c0
  · exact w_c1
  · exact w_c2
  · exact w_c3
  · exact w_c4
  · exact w_c5
  · exact w_c6
  · exact w_c7
  · exact w_c8
  · exact w_c9
  · exact w_c10
  · exact w_c11
  · exact w_c12
  · exact w_c13
  · exact w_c14
  · exact w_c15
  · exact w_c16
  · exact w_c17
  · exact w_c18
  · exact w_c19
  · exact w_c20
  · exact w_c21
  · exact w_c22
set_option maxRecDepth 65536 in
theorem w_t1 : (words1.take 24).all (fun c => isCode c || c.before args0 about1) = true := by decide +kernel
set_option maxRecDepth 65536 in
theorem w_t2 : ((words1.drop 24).take 24).all (fun c => isCode c || c.before args0 about1) = true := by decide +kernel
set_option maxRecDepth 65536 in
theorem w_t3 : (((words1.drop 24).drop 24).take 24).all (fun c => isCode c || c.before args0 about1) = true := by decide +kernel
set_option maxRecDepth 65536 in
theorem w_t4 : ((((words1.drop 24).drop 24).drop 24).take 24).all (fun c => isCode c || c.before args0 about1) = true := by decide +kernel
set_option maxRecDepth 65536 in
theorem w_t5 : ((((words1.drop 24).drop 24).drop 24).drop 24).all (fun c => isCode c || c.before args0 about1) = true := by decide +kernel
theorem w_tables : (allAtoms (Jvm.Cond.code x code maxLocals ret :: tables_1)).before args0 about1 = true := by
  rw [allAtoms_all]
  show words1.all (fun c => c.before args0 about1) = true
  refine all_split ?_ w_codes
  rw [← List.take_append_drop 24 words1, List.all_append, w_t1, ← List.take_append_drop 24 (words1.drop 24), List.all_append, w_t2, ← List.take_append_drop 24 ((words1.drop 24).drop 24), List.all_append, w_t3, ← List.take_append_drop 24 (((words1.drop 24).drop 24).drop 24), List.all_append, w_t4, w_t5]
  rfl
set_option maxRecDepth 65536 in
theorem w_rest : rest_1_c.before args0 about1 = true := by decide +kernel
set_option maxRecDepth 65536 in
theorem w_case : (Jvm.Cond.and given_1 narrow_1).before args0 about1 = true := by decide +kernel
theorem w_applies : (headSpec (Jvm.Cond.code x code maxLocals ret :: tables_1) room_1).applies x e0.platform about1 = true :=
  (Spec.applies_iff w_frames).mpr ⟨w_running, w_runnable, w_alone, w_named, w_hears, w_ripe, w_room, w_tables⟩
theorem atStart : AtStart classFile x code maxLocals ret World_1 tables_1 room_1 Calls_1 rest_1 Pre_1 launch0 p0 e0 about1 theMethod args0 below0 :=
  ⟨lists_1, trivial, launch0.admits_env _ _ _, launch0.least_env, fairChoices_fair.cas, fairChoices_fair.clock, w_frames, w_args, w_heap, w_applies, trivial, w_rest, w_case⟩
end start1
theorem witness_1 : WitnessClaimed_1 := ⟨start1.p0, start1.e0, start1.about1, start1.theMethod, start1.args0, start1.below0, start1.atStart⟩
end Jvm.Pilot.@@N@@
