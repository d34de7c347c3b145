import JvmDerived
import JvmDerived.Pilot.@@N@@Statement
import JvmDerived.Pilot.@@N@@Code
set_option linter.unusedVariables false
set_option linter.unusedSimpArgs false
/- laws to paste: Road.backV, Road.chN, Road.lenW, Road.codOf (cut by pick.py; bodies as the Statement names them) -/
namespace Jvm.Pilot.@@N@@
namespace StrChars
open Jvm Sem ClassFile Op Lib Jvm.Stand Jvm.Free.XT Jvm.Free.ALB Jvm.Free.JM Jvm.Free
open Jvm.Lib.Cold (StaticIs)
/-- a char array whose places are chars -/
def Ch (a : Addr) (A : Cell) (U : State) : Prop := Arr .char a A U ∧ Typed .char A
theorem Ch.mv {a : Addr} {A : Cell} {U U' : State} (h : Ch a A U) (hal : U.vm.Alike U'.vm) (hh : U'.heap = U.heap) : Ch a A U' := ⟨h.1.mv hal hh, h.2⟩
theorem Ch.keep {a : Addr} {A : Cell} {U U' : State} (h : Ch a A U) (hal : U.vm.Alike U'.vm) (hk : U'.heap[a]? = some A) : Ch a A U' := ⟨h.1.keep hal hk, h.2⟩
/-- what place i of a char[]'s cell holds -/
def cv (A : Cell) (i : Nat) : Int32 := match A.slots[i]? with | some (.int x) => x | _ => 0
theorem Ch.get {a : Addr} {A : Cell} {U : State} (h : Ch a A U) {i : Nat} (hi : i < A.slots.size) : A.slots[i]? = some (.int (cv A i)) := by
  have e := Array.getElem?_eq_getElem hi
  have f := h.2 i _ e
  unfold cv; rw [e]
  generalize A.slots[i] = v at f
  cases v <;> simp [fits] at f ⊢
/-- the byte that i2b leaves of a char -/
def lo8 (x : Int32) : Int32 := x.toInt8.toInt32
theorem fits_lo8 (y : Int32) : fits .byte (.int (lo8 y)) = true := by
  have h1 := y.toInt8.le_toInt
  have h2 := y.toInt8.toInt_lt
  simp only [lo8, fits, Bool.and_eq_true, decide_eq_true_eq, Int32.le_iff_toInt_le, Int8.toInt_toInt32, show (-128 : Int32).toInt = -128 from by decide, show (127 : Int32).toInt = 127 from by decide]
  omega
/-- A' is A but that each place j of lo .. hi - 1 holds f j -/
def Laid (A A' : Cell) (lo hi : Nat) (f : Nat → Value) : Prop := A'.cls = A.cls ∧ A'.vm = A.vm ∧ A'.slots.size = A.slots.size ∧ ∀ i, A'.slots[i]? = if lo ≤ i ∧ i < hi then some (f i) else A.slots[i]?
theorem Laid.zero (A : Cell) (lo : Nat) (f : Nat → Value) : Laid A A lo (lo + 0) f := ⟨rfl, rfl, rfl, fun i => by rw [if_neg (by omega)]⟩
theorem Laid.step {A Ak : Cell} {lo k : Nat} {f : Nat → Value} {v : Value} (h : Laid A Ak lo k f) (hlo : lo ≤ k) (hk : k < Ak.slots.size) (hv : v = f k) : Laid A (Ak.setSlot k v) lo (k + 1) f := by
  refine ⟨h.1, h.2.1, by simpa [Cell.setSlot] using h.2.2.1, fun i => ?_⟩
  by_cases e : k = i
  · subst e; rw [Cell.slots_setSlot_self v hk, if_pos (by omega), hv]
  · rw [Cell.slots_setSlot_ne v e, h.2.2.2 i]
    by_cases q : lo ≤ i ∧ i < k
    · rw [if_pos q, if_pos (by omega)]
    · rw [if_neg q, if_neg (by omega)]
def U16 : String := "java/lang/StringUTF16"
namespace Cmp5
def yN : MethodName := ⟨"java/lang/StringUTF16", "compress", "([CI[BII)I"⟩
abbrev yB : ByteArray := jdk_52_method_21_code
theorem d0 : decode yB 0 = .ok (.iconst 0, 1) := by decide +kernel
theorem d1 : decode yB 1 = .ok (.istore 5, 2) := by decide +kernel
theorem d3 : decode yB 3 = .ok (.iload 5, 2) := by decide +kernel
theorem d5 : decode yB 5 = .ok (.iload 4, 2) := by decide +kernel
theorem d7 : decode yB 7 = .ok (.if_icmp (.ge) 37, 3) := by decide +kernel
theorem d10 : decode yB 10 = .ok (.aload_n 0, 1) := by decide +kernel
theorem d11 : decode yB 11 = .ok (.iload_n 1, 1) := by decide +kernel
theorem d12 : decode yB 12 = .ok (.caload, 1) := by decide +kernel
theorem d13 : decode yB 13 = .ok (.istore 6, 2) := by decide +kernel
theorem d15 : decode yB 15 = .ok (.iload 6, 2) := by decide +kernel
theorem d17 : decode yB 17 = .ok (.sipush 255, 3) := by decide +kernel
theorem d20 : decode yB 20 = .ok (.if_icmp (.le) 6, 3) := by decide +kernel
theorem d26 : decode yB 26 = .ok (.aload_n 2, 1) := by decide +kernel
theorem d27 : decode yB 27 = .ok (.iload_n 3, 1) := by decide +kernel
theorem d28 : decode yB 28 = .ok (.iload 6, 2) := by decide +kernel
theorem d30 : decode yB 30 = .ok (.i2b, 1) := by decide +kernel
theorem d31 : decode yB 31 = .ok (.bastore, 1) := by decide +kernel
theorem d32 : decode yB 32 = .ok (.iinc 1 1, 3) := by decide +kernel
theorem d35 : decode yB 35 = .ok (.iinc 3 1, 3) := by decide +kernel
theorem d38 : decode yB 38 = .ok (.iinc 5 1, 3) := by decide +kernel
theorem d41 : decode yB 41 = .ok (.goto (-38), 3) := by decide +kernel
theorem d44 : decode yB 44 = .ok (.iload 4, 2) := by decide +kernel
theorem d46 : decode yB 46 = .ok (.ireturn, 1) := by decide +kernel
def site : List Cond := []
def tab : Cond := tabOf yN yB 7 (some .int) site
def P (b : Addr) (A : Cell) (d : Addr) (B : Cell) (o q len : Nat) (args : Array Value) (s : State) : Prop := args = #[.ref b, .int (Int32.ofNat o), .ref d, .int (Int32.ofNat q), .int (Int32.ofNat len)] ∧ Ch b A s ∧ Arr .byte d B s ∧ b ≠ d ∧ o + len ≤ A.slots.size ∧ q + len ≤ B.slots.size ∧ ∀ i, i < len → ¬ 255 < cv A (o + i)
def E (b : Addr) (A : Cell) (d : Addr) (B : Cell) (o q len : Nat) (r : Option Value) (s u : State) : Prop := r = some (.int (Int32.ofNat len)) ∧ ∃ B', Put d B' s u ∧ Laid B B' q (q + len) (fun j => Value.int (lo8 (cv A (o + (j - q)))))
/-- no char of the range above 255: len; the places written hold each char's low byte -/
theorem law (l : Launch) (b : Addr) (A : Cell) (d : Addr) (B : Cell) (o q len : Nat) : Law l yN 5 5 0 0 yB 7 (some .int) site (P b A d B o q len) (E b A d B o q len) (copyLocs d q len) 0 0 := by
  refine Law.of_walk (plainFor_of_name (by decide +kernel)) (by decide +kernel) (by decide +kernel) (by decide) (fun _ _ h => by rw [h.1]; rfl) (fun _ U U' hal hh h => ⟨h.1, h.2.1.mv hal hh, h.2.2.1.mv hal hh, h.2.2.2⟩) (fun r U U' V V' h1 hal h2 h => ⟨h.1, h.2.elim fun B' q => ⟨B', q.1.mv h1 h2, q.2⟩⟩) ?_
  intro p e s m args below meth c s₁ X0 hexec hbytes hml hret hlk hnm hown hh0 W hP
  obtain ⟨rfl, hA, hB, hne, l1, l2, hp⟩ := hP
  have c1 : Steps p.tables e below (s₁.setTop (entryFrame m #[.ref b, .int (Int32.ofNat o), .ref d, .int (Int32.ofNat q), .int (Int32.ofNat len)] 7)) (s₁.setTop (mkF m 0 #[.val (.ref b), .val (.int (Int32.ofNat o)), .val (.ref d), .val (.int (Int32.ofNat q)), .val (.int (Int32.ofNat len)), .unset, .unset] [])) := entry rfl
  have hA0 := hA.1.mv X0.warmed.alike hh0
  have hB0 := hB.mv X0.warmed.alike hh0
  have a31 := hA.1.2.2.2
  have c2 : Steps p.tables e below (s₁.setTop (entryFrame m #[.ref b, .int (Int32.ofNat o), .ref d, .int (Int32.ofNat q), .int (Int32.ofNat len)] 7)) (s₁.setTop (mkF m 3 #[.val (.ref b), .val (.int (Int32.ofNat o)), .val (.ref d), .val (.int (Int32.ofNat q)), .val (.int (Int32.ofNat len)), .val (.int 0), .unset] [])) := c1.trans (by
    refine iconstV X0.here hexec rfl 0 (hb hbytes d0) (by decide) ?_
    refine XS.istore X0.here hexec rfl (hb hbytes d1) rfl rfl ?_
    exact Steps.refl _)
  have loop : ∀ (r i : Nat), i + r = len → ∀ (z : Slot), (z = .unset ∨ ∃ w, z = .val w ∧ w.category = 1) → ∀ (Tl : State) (Bk : Cell), Stand p l e { frames := 0, locals := 0, cells := 0, slots := 0 } s m #[.ref b, .int (Int32.ofNat o), .ref d, .int (Int32.ofNat q), .int (Int32.ofNat len)] below meth c Tl ([] ++ copyLocs d q i) 0 0 → Put d Bk s₁ Tl → Laid B Bk q (q + i) (fun j => Value.int (lo8 (cv A (o + (j - q))))) →
      Steps p.tables e below (s₁.setTop (entryFrame m #[.ref b, .int (Int32.ofNat o), .ref d, .int (Int32.ofNat q), .int (Int32.ofNat len)] 7)) (Tl.setTop (mkF m 3 #[.val (.ref b), .val (.int (Int32.ofNat (o + i))), .val (.ref d), .val (.int (Int32.ofNat (q + i))), .val (.int (Int32.ofNat len)), .val (.int (Int32.ofNat i)), z] [])) → ∃ (T' : State) (B' : Cell) (z' : Slot), Stand p l e { frames := 0, locals := 0, cells := 0, slots := 0 } s m #[.ref b, .int (Int32.ofNat o), .ref d, .int (Int32.ofNat q), .int (Int32.ofNat len)] below meth c T' ([] ++ copyLocs d q len) 0 0 ∧ Put d B' s₁ T' ∧ Laid B B' q (q + len) (fun j => Value.int (lo8 (cv A (o + (j - q))))) ∧
      Steps p.tables e below (s₁.setTop (entryFrame m #[.ref b, .int (Int32.ofNat o), .ref d, .int (Int32.ofNat q), .int (Int32.ofNat len)] 7)) (T'.setTop (mkF m 3 #[.val (.ref b), .val (.int (Int32.ofNat (o + len))), .val (.ref d), .val (.int (Int32.ofNat (q + len))), .val (.int (Int32.ofNat len)), .val (.int (Int32.ofNat len)), z'] [])) := by
    intro r
    induction r with
    | zero =>
      intro i hi z hz Tl Bk Xl pl fl cl
      have hil : i = len := by omega
      rw [hil] at Xl fl cl
      exact ⟨Tl, Bk, z, Xl, pl, fl, cl⟩
    | succ r ih =>
      intro i hi z hz Tl Bk Xl pl fl cl
      have all := X0.warmed.alike.symm.trans Xl.warmed.alike
      have hAl := hA0.keep all (pl.other hne hA0.1)
      have hBk := hB0.like all pl.1 fl.1 fl.2.1 fl.2.2.1
      have hlt : q + i < Bk.slots.size := by rw [fl.2.2.1]; omega
      have c3 : Steps p.tables e below (s₁.setTop (entryFrame m #[.ref b, .int (Int32.ofNat o), .ref d, .int (Int32.ofNat q), .int (Int32.ofNat len)] 7)) (Tl.setTop (mkF m 12 #[.val (.ref b), .val (.int (Int32.ofNat (o + i))), .val (.ref d), .val (.int (Int32.ofNat (q + i))), .val (.int (Int32.ofNat len)), .val (.int (Int32.ofNat i)), z] [.int (Int32.ofNat (o + i)), .ref b])) := cl.trans (by
        refine XS.iload Xl.here hexec rfl (hb hbytes d3) rfl ?_
        refine XS.iload Xl.here hexec rfl (hb hbytes d5) rfl ?_
        refine XS.icmpNo Xl.here hexec rfl (hb hbytes d7) rfl (ii_ge_f (lt32 (by omega) (by omega))) ?_
        refine XS.aloadN Xl.here hexec rfl (hb hbytes d10) rfl rfl ?_
        refine XS.iloadN Xl.here hexec rfl (hb hbytes d11) rfl ?_
        exact Steps.refl _)
      have c4 : Steps p.tables e below (s₁.setTop (entryFrame m #[.ref b, .int (Int32.ofNat o), .ref d, .int (Int32.ofNat q), .int (Int32.ofNat len)] 7)) (Tl.setTop (mkF m 13 #[.val (.ref b), .val (.int (Int32.ofNat (o + i))), .val (.ref d), .val (.int (Int32.ofNat (q + i))), .val (.int (Int32.ofNat len)), .val (.int (Int32.ofNat i)), z] [.int (cv A (o + i))])) := c3.trans (by
        refine Xl.aget hexec hAl rfl (hA.get (i := o + i) (by omega)) rfl rfl (hb hbytes d12) ?_
        exact Steps.refl _)
      have c5 : Steps p.tables e below (s₁.setTop (entryFrame m #[.ref b, .int (Int32.ofNat o), .ref d, .int (Int32.ofNat q), .int (Int32.ofNat len)] 7)) (Tl.setTop (mkF m 15 #[.val (.ref b), .val (.int (Int32.ofNat (o + i))), .val (.ref d), .val (.int (Int32.ofNat (q + i))), .val (.int (Int32.ofNat len)), .val (.int (Int32.ofNat i)), .val (.int (cv A (o + i)))] [])) := c4.trans (by
        refine XS.istoreS Xl.here hexec rfl (hb hbytes d13) rfl rfl hz ?_
        exact Steps.refl _)
      have c6 : Steps p.tables e below (s₁.setTop (entryFrame m #[.ref b, .int (Int32.ofNat o), .ref d, .int (Int32.ofNat q), .int (Int32.ofNat len)] 7)) (Tl.setTop (mkF m 31 #[.val (.ref b), .val (.int (Int32.ofNat (o + i))), .val (.ref d), .val (.int (Int32.ofNat (q + i))), .val (.int (Int32.ofNat len)), .val (.int (Int32.ofNat i)), .val (.int (cv A (o + i)))] [.int (lo8 (cv A (o + i))), .int (Int32.ofNat (q + i)), .ref d])) := c5.trans (by
        refine XS.iload Xl.here hexec rfl (hb hbytes d15) rfl ?_
        refine sipushV Xl.here hexec rfl 255 (hb hbytes d17) (by decide) ?_
        refine XS.icmpYes Xl.here hexec rfl (pc0 := 20) rfl (hb hbytes d20) rfl (ii_le_t (hp i (by omega))) (by decide) rfl ?_
        refine XS.aloadN Xl.here hexec rfl (hb hbytes d26) rfl rfl ?_
        refine XS.iloadN Xl.here hexec rfl (hb hbytes d27) rfl ?_
        refine XS.iload Xl.here hexec rfl (hb hbytes d28) rfl ?_
        refine i2b Xl.here hexec rfl (hb hbytes d30) rfl ?_
        exact Steps.refl _)
      obtain ⟨T7, X7, p7, st7⟩ := Xl.aput hexec hBk rfl hlt rfl (fits_lo8 (cv A (o + i))) (g := (mkF m 31 #[.val (.ref b), .val (.int (Int32.ofNat (o + i))), .val (.ref d), .val (.int (Int32.ofNat (q + i))), .val (.int (Int32.ofNat len)), .val (.int (Int32.ofNat i)), .val (.int (cv A (o + i)))] [.int (lo8 (cv A (o + i))), .int (Int32.ofNat (q + i)), .ref d])) rfl (rest := []) rfl (hb hbytes d31)
      have c8 : Steps p.tables e below (s₁.setTop (entryFrame m #[.ref b, .int (Int32.ofNat o), .ref d, .int (Int32.ofNat q), .int (Int32.ofNat len)] 7)) (T7.setTop (mkF m 32 #[.val (.ref b), .val (.int (Int32.ofNat (o + i))), .val (.ref d), .val (.int (Int32.ofNat (q + i))), .val (.int (Int32.ofNat len)), .val (.int (Int32.ofNat i)), .val (.int (cv A (o + i)))] [])) := c6.trans (st7 _ (Steps.refl _))
      have c9 : Steps p.tables e below (s₁.setTop (entryFrame m #[.ref b, .int (Int32.ofNat o), .ref d, .int (Int32.ofNat q), .int (Int32.ofNat len)] 7)) (T7.setTop (mkF m 3 #[.val (.ref b), .val (.int (Int32.ofNat (o + i) + 1)), .val (.ref d), .val (.int (Int32.ofNat (q + i) + 1)), .val (.int (Int32.ofNat len)), .val (.int (Int32.ofNat i + 1)), .val (.int (cv A (o + i)))] [])) := c8.trans (by
        refine iincV X7.here hexec rfl 1 (hb hbytes d32) (by decide) rfl rfl ?_
        refine iincV X7.here hexec rfl 1 (hb hbytes d35) (by decide) rfl rfl ?_
        refine iincV X7.here hexec rfl 1 (hb hbytes d38) (by decide) rfl rfl ?_
        refine XS.goto X7.here hexec rfl (pc0 := 41) rfl (hb hbytes d41) (by decide) rfl ?_
        exact Steps.refl _)
      have c10 : Steps p.tables e below (s₁.setTop (entryFrame m #[.ref b, .int (Int32.ofNat o), .ref d, .int (Int32.ofNat q), .int (Int32.ofNat len)] 7)) (T7.setTop (mkF m 3 #[.val (.ref b), .val (.int (Int32.ofNat (o + (i + 1)))), .val (.ref d), .val (.int (Int32.ofNat (q + (i + 1)))), .val (.int (Int32.ofNat len)), .val (.int (Int32.ofNat (i + 1))), .val (.int (cv A (o + i)))] [])) := by
        have := c9
        rw [succ32, succ32, succ32] at this
        exact this
      exact ih (i + 1) (by omega) _ (Or.inr ⟨_, rfl, rfl⟩) T7 _ (by rw [copyLocs_step, ← List.append_assoc]; exact X7) (pl.trans p7) (fl.step (by omega) hlt (by simp)) c10
  obtain ⟨T9, B9, z9, X9, p9, f9, g9⟩ := loop len 0 (by omega) .unset (Or.inl rfl) s₁ B (by simpa [copyLocs] using X0) ⟨hB0.1, fun _ _ => rfl, rfl⟩ (Laid.zero _ _ _) c2
  have c11 : Steps p.tables e below (s₁.setTop (entryFrame m #[.ref b, .int (Int32.ofNat o), .ref d, .int (Int32.ofNat q), .int (Int32.ofNat len)] 7)) (T9.setTop (mkF m 46 #[.val (.ref b), .val (.int (Int32.ofNat (o + len))), .val (.ref d), .val (.int (Int32.ofNat (q + len))), .val (.int (Int32.ofNat len)), .val (.int (Int32.ofNat len)), z9] [.int (Int32.ofNat len)])) := g9.trans (by
    refine XS.iload X9.here hexec rfl (hb hbytes d3) rfl ?_
    refine XS.iload X9.here hexec rfl (hb hbytes d5) rfl ?_
    refine XS.icmpYes X9.here hexec rfl (pc0 := 7) rfl (hb hbytes d7) rfl (ii_ge_t (nlt32 (by omega) (Nat.le_refl _))) (by decide) rfl ?_
    refine XS.iload X9.here hexec rfl (hb hbytes d44) rfl ?_
    exact Steps.refl _)
  exact ⟨T9, some (.int (Int32.ofNat len)), _, _, _, X9, by simp, rfl, rfl, (fun h => by cases h), ⟨rfl, B9, p9.from hh0, f9⟩, fun fs hl => c11.trans (X9.ireturnOut hexec hret rfl (Or.inl rfl) (hb hbytes d46) hl)⟩
end Cmp5
namespace Cmp3
def yN : MethodName := ⟨"java/lang/StringUTF16", "compress", "([CII)[B"⟩
abbrev yB : ByteArray := jdk_52_method_16_code
theorem d0 : decode yB 0 = .ok (.iload_n 2, 1) := by decide +kernel
theorem d1 : decode yB 1 = .ok (.newarray .byte, 2) := by decide +kernel
theorem d3 : decode yB 3 = .ok (.astore_n 3, 1) := by decide +kernel
theorem d4 : decode yB 4 = .ok (.aload_n 0, 1) := by decide +kernel
theorem d5 : decode yB 5 = .ok (.iload_n 1, 1) := by decide +kernel
theorem d6 : decode yB 6 = .ok (.aload_n 3, 1) := by decide +kernel
theorem d7 : decode yB 7 = .ok (.iconst 0, 1) := by decide +kernel
theorem d8 : decode yB 8 = .ok (.iload_n 2, 1) := by decide +kernel
theorem d9 : decode yB 9 = .ok (.invokestatic 115, 3) := by decide +kernel
theorem d12 : decode yB 12 = .ok (.istore 4, 2) := by decide +kernel
theorem d14 : decode yB 14 = .ok (.iload 4, 2) := by decide +kernel
theorem d16 : decode yB 16 = .ok (.iload_n 2, 1) := by decide +kernel
theorem d17 : decode yB 17 = .ok (.if_icmp (.eq) 40, 3) := by decide +kernel
theorem d57 : decode yB 57 = .ok (.aload_n 3, 1) := by decide +kernel
theorem d58 : decode yB 58 = .ok (.areturn, 1) := by decide +kernel
def site : List Cond := [.arrayClass .byte, Cmp5.tab] ++ staticW U16 115 Cmp5.yN
def tab : Cond := tabOf yN yB 6 (some (.array .byte)) site
def P (b : Addr) (A : Cell) (o len : Nat) (args : Array Value) (s : State) : Prop := args = #[.ref b, .int (Int32.ofNat o), .int (Int32.ofNat len)] ∧ Ch b A s ∧ o + len ≤ A.slots.size ∧ len ≤ 536870912 ∧ ∀ i, i < len → ¬ 255 < cv A (o + i)
def E (b : Addr) (A : Cell) (o len : Nat) (r : Option Value) (s u : State) : Prop := NewArr .byte "[B" len (fun j => .int (lo8 (cv A (o + j)))) r s u ∧ u.heap.size = s.heap.size + 1
/-- no char of the range above 255: a new byte[] of their low bytes -/
theorem law (l : Launch) (b : Addr) (A : Cell) (o len : Nat) : Law l yN 3 3 1 18 yB 6 (some (.array .byte)) site (P b A o len) (E b A o len) [] 1 len := by
  refine Law.of_walk (plainFor_of_name (by decide +kernel)) (by decide +kernel) (by decide +kernel) (by decide) (fun _ _ h => by rw [h.1]; rfl) (fun _ U U' hal hh h => ⟨h.1, h.2.1.mv hal hh, h.2.2⟩) (fun r U U' V V' h1 hal h2 h => ⟨NewArr.mv r U U' V V' h1 hal h2 h.1, by rw [h1, h2]; exact h.2⟩) ?_
  intro p e s m args below meth c s₁ X0 hexec hbytes hml hret hlk hnm hown hh0 W hP
  obtain ⟨rfl, hA, l1, l2, hp⟩ := hP
  have a31 := hA.1.2.2.2
  have c1 : Steps p.tables e below (s₁.setTop (entryFrame m #[.ref b, .int (Int32.ofNat o), .int (Int32.ofNat len)] 6)) (s₁.setTop (mkF m 0 #[.val (.ref b), .val (.int (Int32.ofNat o)), .val (.int (Int32.ofNat len)), .unset, .unset, .unset] [])) := entry rfl
  have c2 : Steps p.tables e below (s₁.setTop (entryFrame m #[.ref b, .int (Int32.ofNat o), .int (Int32.ofNat len)] 6)) (s₁.setTop (mkF m 1 #[.val (.ref b), .val (.int (Int32.ofNat o)), .val (.int (Int32.ofNat len)), .unset, .unset, .unset] [.int (Int32.ofNat len)])) := c1.trans (by
    refine XS.iloadN X0.here hexec rfl (hb hbytes d0) rfl ?_
    exact Steps.refl _)
  obtain ⟨T3, B3, X3, ba3, bs3, bv3, bh3, bf3, st3⟩ := X0.anew hexec (atype := .byte) (wk W (.arrayClass .byte)) rfl (by show len * 1 ≤ _; omega) (by omega) (g := (mkF m 1 #[.val (.ref b), .val (.int (Int32.ofNat o)), .val (.int (Int32.ofNat len)), .unset, .unset, .unset] [.int (Int32.ofNat len)])) rfl (hb hbytes d1) (rest := []) rfl (Nat.le_refl _) (by show 0 + len ≤ len; omega)
  rw [hh0] at ba3 st3
  have kp3 : XT.Kept s T3 := (XT.Kept.of_eq hh0).push bh3
  have hA3 := hA.keep X3.warmed.alike (kp3 _ _ hA.1.1)
  have hne : b ≠ s.heap.size := hA.1.ne
  have c4 : Steps p.tables e below (s₁.setTop (entryFrame m #[.ref b, .int (Int32.ofNat o), .int (Int32.ofNat len)] 6)) (T3.setTop (mkF m 3 #[.val (.ref b), .val (.int (Int32.ofNat o)), .val (.int (Int32.ofNat len)), .unset, .unset, .unset] [.ref s.heap.size])) := c2.trans (st3 _ (Steps.refl _))
  have c5 : Steps p.tables e below (s₁.setTop (entryFrame m #[.ref b, .int (Int32.ofNat o), .int (Int32.ofNat len)] 6)) (T3.setTop (mkF m 9 #[.val (.ref b), .val (.int (Int32.ofNat o)), .val (.int (Int32.ofNat len)), .val (.ref s.heap.size), .unset, .unset] [.int (Int32.ofNat len), .int 0, .ref s.heap.size, .int (Int32.ofNat o), .ref b])) := c4.trans (by
    refine XS.astoreN X3.here hexec rfl (hb hbytes d3) rfl rfl rfl ?_
    refine XS.aloadN X3.here hexec rfl (hb hbytes d4) rfl rfl ?_
    refine XS.iloadN X3.here hexec rfl (hb hbytes d5) rfl ?_
    refine XS.aloadN X3.here hexec rfl (hb hbytes d6) rfl rfl ?_
    refine iconstV X3.here hexec rfl 0 (hb hbytes d7) (by decide) ?_
    refine XS.iloadN X3.here hexec rfl (hb hbytes d8) rfl ?_
    exact Steps.refl _)
  obtain ⟨v6, T6, X6, E6, g6⟩ := X3.callS hexec (Cmp5.law l b A s.heap.size B3 o 0 len) hown (wks W (staticW U16 115 Cmp5.yN)) (wk W Cmp5.tab) (W := 0) (Nat.le_of_ble_eq_true rfl) (Nat.le_of_ble_eq_true rfl) (Nat.le_refl _) (by show 0 + len + 0 ≤ len; omega) (g := (mkF m 9 #[.val (.ref b), .val (.int (Int32.ofNat o)), .val (.int (Int32.ofNat len)), .val (.ref s.heap.size), .unset, .unset] [.int (Int32.ofNat len), .int (Int32.ofNat 0), .ref s.heap.size, .int (Int32.ofNat o), .ref b])) rfl (by rw [hml]; rfl) c5 (argsL := [.ref b, .int (Int32.ofNat o), .ref s.heap.size, .int (Int32.ofNat 0), .int (Int32.ofNat len)]) (rest := []) rfl rfl (by show 2 * 0 + 0 ≤ _; decide) (hb hbytes d9) (⟨rfl, hA3, ba3, hne, l1, by rw [bs3]; simp, hp⟩)
  obtain ⟨rfl, B6, p6, f6⟩ := E6
  have c7 : Steps p.tables e below (s₁.setTop (entryFrame m #[.ref b, .int (Int32.ofNat o), .int (Int32.ofNat len)] 6)) (T6.setTop (mkF m 12 #[.val (.ref b), .val (.int (Int32.ofNat o)), .val (.int (Int32.ofNat len)), .val (.ref s.heap.size), .unset, .unset] [.int (Int32.ofNat len)])) := g6
  have c8 : Steps p.tables e below (s₁.setTop (entryFrame m #[.ref b, .int (Int32.ofNat o), .int (Int32.ofNat len)] 6)) (T6.setTop (mkF m 58 #[.val (.ref b), .val (.int (Int32.ofNat o)), .val (.int (Int32.ofNat len)), .val (.ref s.heap.size), .val (.int (Int32.ofNat len)), .unset] [.ref s.heap.size])) := c7.trans (by
    refine XS.istore X6.here hexec rfl (hb hbytes d12) rfl rfl ?_
    refine XS.iload X6.here hexec rfl (hb hbytes d14) rfl ?_
    refine XS.iloadN X6.here hexec rfl (hb hbytes d16) rfl ?_
    refine XS.icmpYes X6.here hexec rfl (pc0 := 17) rfl (hb hbytes d17) rfl (ii_eq_t rfl) (by decide) rfl ?_
    refine XS.aloadN X6.here hexec rfl (hb hbytes d57) rfl rfl ?_
    exact Steps.refl _)
  have X8 := X6.wide (L' := []) (cells' := 1) (slots' := len) (fun x hx hlt => by
    simp only [List.nil_append, copyLocs, List.mem_map, List.mem_range] at hx
    obtain ⟨i, -, rfl⟩ := hx
    exact absurd hlt (Nat.lt_irrefl _)) (Nat.le_refl _) (by omega)
  exact ⟨T6, some (.ref s.heap.size), _, _, _, X8, rfl, rfl, rfl, (fun h => by cases h), ⟨⟨rfl, B6, ba3.like (X3.warmed.alike.symm.trans X6.warmed.alike) p6.1 f6.1 f6.2.1 f6.2.2.1, f6.2.1.trans bv3, by rw [X6.warmed.alike.findClass, f6.1]; exact bf3, by rw [f6.2.2.1, bs3]; simp, fun j hj => by rw [f6.2.2.2 j, if_pos (by omega)]; rfl, kp3.put p6 (Nat.le_refl _)⟩, by rw [p6.2.2, bh3, hh0]; simp⟩, fun fs hl => c8.trans (X8.areturnOut hexec rfl hret rfl (hb hbytes d58) hl)⟩
end Cmp3
namespace CodL
def yN : MethodName := ⟨"java/lang/StringUTF16", "coderFromArrayLen", "([BI)B"⟩
abbrev yB : ByteArray := jdk_52_method_15_code
theorem d0 : decode yB 0 = .ok (.iload_n 1, 1) := by decide +kernel
theorem d1 : decode yB 1 = .ok (.aload_n 0, 1) := by decide +kernel
theorem d2 : decode yB 2 = .ok (.arraylength, 1) := by decide +kernel
theorem d3 : decode yB 3 = .ok (.isub, 1) := by decide +kernel
theorem d4 : decode yB 4 = .ok (.bipush 31, 2) := by decide +kernel
theorem d6 : decode yB 6 = .ok (.iushr, 1) := by decide +kernel
theorem d7 : decode yB 7 = .ok (.i2b, 1) := by decide +kernel
theorem d8 : decode yB 8 = .ok (.ireturn, 1) := by decide +kernel
def site : List Cond := []
def tab : Cond := tabOf yN yB 2 (some .byte) site
def P (d : Addr) (B : Cell) (args : Array Value) (s : State) : Prop := args = #[.ref d, .int (Int32.ofNat B.slots.size)] ∧ Arr .byte d B s
def E (r : Option Value) (s u : State) : Prop := XT.PureE (some (.int 0)) r s u
/-- an array as long as the number of chars: LATIN1 -/
theorem law (l : Launch) (d : Addr) (B : Cell) : Law l yN 2 2 0 0 yB 2 (some .byte) site (P d B) E [] 0 0 := by
  refine Law.of_walk (plainFor_of_name (by decide +kernel)) (by decide +kernel) (by decide +kernel) (by decide) (fun _ _ h => by rw [h.1]; rfl) (fun _ U U' hal hh h => ⟨h.1, h.2.mv hal hh⟩) (fun r U U' V V' h1 hal h2 h => XT.PureE.mv r U U' V V' h1 hal h2 h) ?_
  intro p e s m args below meth c s₁ X0 hexec hbytes hml hret hlk hnm hown hh0 W hP
  obtain ⟨rfl, hB⟩ := hP
  have hB0 := hB.mv X0.warmed.alike hh0
  have c1 : Steps p.tables e below (s₁.setTop (entryFrame m #[.ref d, .int (Int32.ofNat B.slots.size)] 2)) (s₁.setTop (mkF m 0 #[.val (.ref d), .val (.int (Int32.ofNat B.slots.size))] [])) := entry rfl
  have c2 : Steps p.tables e below (s₁.setTop (entryFrame m #[.ref d, .int (Int32.ofNat B.slots.size)] 2)) (s₁.setTop (mkF m 2 #[.val (.ref d), .val (.int (Int32.ofNat B.slots.size))] [.ref d, .int (Int32.ofNat B.slots.size)])) := c1.trans (by
    refine XS.iloadN X0.here hexec rfl (hb hbytes d0) rfl ?_
    refine XS.aloadN X0.here hexec rfl (hb hbytes d1) rfl rfl ?_
    exact Steps.refl _)
  have c3 : Steps p.tables e below (s₁.setTop (entryFrame m #[.ref d, .int (Int32.ofNat B.slots.size)] 2)) (s₁.setTop (mkF m 8 #[.val (.ref d), .val (.int (Int32.ofNat B.slots.size))] [.int (lo8 (ushr (Int32.ofNat B.slots.size - Int32.ofNat B.slots.size) 31))])) := c2.trans (by
    refine X0.alen hexec hB0 rfl rfl (hb hbytes d2) ?_
    refine XS.isub X0.here hexec rfl (hb hbytes d3) rfl ?_
    refine bipushV X0.here hexec rfl 31 (hb hbytes d4) (by decide) ?_
    refine iushr X0.here hexec rfl (hb hbytes d6) rfl ?_
    refine i2b X0.here hexec rfl (hb hbytes d7) rfl ?_
    exact Steps.refl _)
  have e0 : lo8 (ushr (Int32.ofNat B.slots.size - Int32.ofNat B.slots.size) 31) = 0 := by rw [Int32.sub_self]; decide
  rw [e0] at c3
  exact ⟨s₁, some (.int 0), _, _, _, X0, rfl, rfl, rfl, (fun h => by cases h), ⟨rfl, hh0⟩, fun fs hl => c3.trans (X0.ireturnOut hexec hret rfl (Or.inr (Or.inr (Or.inl rfl))) (hb hbytes d8) hl)⟩
end CodL
/-- the String at a is Latin-1 over a new byte[] (the heap's one new cell): the low bytes of the len chars of A from o on; every cell but a is kept -/
def Got (a : Addr) (D : Cell) (fV fC : Field) (A : Cell) (o len : Nat) (r : Option Value) (s u : State) : Prop := r = none ∧ ∃ D' V : Cell, Blank "java/lang/String" a D' u ∧ Same D D' [fV.slot, fC.slot] ∧ D'.slots[fV.slot]? = some (.ref s.heap.size) ∧ D'.slots[fC.slot]? = some (.int 0) ∧ Arr .byte s.heap.size V u ∧ V.vm = .none ∧ u.vm.findClass "[B" = some V.cls ∧ V.slots.size = len ∧ (∀ j, j < len → V.slots[j]? = some (.int (lo8 (cv A (o + j))))) ∧ (∀ (y : Addr) (c : Cell), y ≠ a → s.heap[y]? = some c → u.heap[y]? = some c) ∧ u.heap.size = s.heap.size + 1
theorem Got.mv {a : Addr} {D A : Cell} {fV fC : Field} {o len : Nat} : ∀ r (U U' V V' : State), U'.heap = U.heap → V.vm.Alike V'.vm → V'.heap = V.heap → Got a D fV fC A o len r U V → Got a D fV fC A o len r U' V' :=
  fun r U U' V V' h1 hal h2 ⟨e0, D', X, a1, a2, a3, a4, a5, a6, a7, a8, a9, a10, a11⟩ => ⟨e0, D', X, a1.mv hal h2, a2, by rw [h1]; exact a3, a4, by rw [h1]; exact a5.mv hal h2, a6, by rw [hal.findClass]; exact a7, a8, a9, by rw [h1, h2]; exact a10, by rw [h1, h2]; exact a11⟩
namespace New4
def yN : MethodName := ⟨"java/lang/String", "<init>", "([CIILjava/lang/Void;)V"⟩
abbrev yB : ByteArray := jdk_42_method_149_code
theorem d0 : decode yB 0 = .ok (.aload_n 0, 1) := by decide +kernel
theorem d1 : decode yB 1 = .ok (.invokespecial 1, 3) := by decide +kernel
theorem d4 : decode yB 4 = .ok (.iload_n 3, 1) := by decide +kernel
theorem d5 : decode yB 5 = .ok (.ifCond (.ne) 22, 3) := by decide +kernel
theorem d27 : decode yB 27 = .ok (.getstatic 38, 3) := by decide +kernel
theorem d30 : decode yB 30 = .ok (.ifCond (.eq) 28, 3) := by decide +kernel
theorem d33 : decode yB 33 = .ok (.aload_n 1, 1) := by decide +kernel
theorem d34 : decode yB 34 = .ok (.iload_n 2, 1) := by decide +kernel
theorem d35 : decode yB 35 = .ok (.iload_n 3, 1) := by decide +kernel
theorem d36 : decode yB 36 = .ok (.invokestatic 177, 3) := by decide +kernel
theorem d39 : decode yB 39 = .ok (.astore 5, 2) := by decide +kernel
theorem d41 : decode yB 41 = .ok (.aload_n 0, 1) := by decide +kernel
theorem d42 : decode yB 42 = .ok (.aload 5, 2) := by decide +kernel
theorem d44 : decode yB 44 = .ok (.iload_n 3, 1) := by decide +kernel
theorem d45 : decode yB 45 = .ok (.invokestatic 47, 3) := by decide +kernel
theorem d48 : decode yB 48 = .ok (.putfield 15, 3) := by decide +kernel
theorem d51 : decode yB 51 = .ok (.aload_n 0, 1) := by decide +kernel
theorem d52 : decode yB 52 = .ok (.aload 5, 2) := by decide +kernel
theorem d54 : decode yB 54 = .ok (.putfield 9, 3) := by decide +kernel
theorem d57 : decode yB 57 = .ok (.return_, 1) := by decide +kernel
def site : List Cond := [.fieldLink "java/lang/String" 38 "java/lang/String" "COMPACT_STRINGS" "Z", Cmp3.tab, CodL.tab, .laysFinal "java/lang/String" "java/lang/String" "value" "[B", .fieldLink "java/lang/String" 9 "java/lang/String" "value" "[B", .laysFinal "java/lang/String" "java/lang/String" "coder" "B", .fieldLink "java/lang/String" 15 "java/lang/String" "coder" "B"] ++ objW "java/lang/String" 1 ++ staticW "java/lang/String" 177 Cmp3.yN ++ staticW "java/lang/String" 47 CodL.yN
def tab : Cond := tabOf yN yB 6 none site
def P (a : Addr) (D : Cell) (fV fC : Field) (b : Addr) (A : Cell) (z : Int32) (o len : Nat) (args : Array Value) (s : State) : Prop := args = #[.ref a, .ref b, .int (Int32.ofNat o), .int (Int32.ofNat len), .null] ∧ Blank "java/lang/String" a D s ∧ Found "java/lang/String" "value" "[B" fV s ∧ Found "java/lang/String" "coder" "B" fC s ∧ Ch b A s ∧ StaticIs s "java/lang/String" "COMPACT_STRINGS" "Z" (.int z) ∧ ¬ z = 0 ∧ 0 < len ∧ o + len ≤ A.slots.size ∧ len ≤ 536870912 ∧ ∀ i, i < len → ¬ 255 < cv A (o + i)
def E (a : Addr) (D : Cell) (fV fC : Field) (A : Cell) (o len : Nat) (r : Option Value) (s u : State) : Prop := Got a D fV fC A o len r s u
/-- len > 0, no char of the range above 255: a Latin-1 String of their low bytes -/
theorem law (l : Launch) (a : Addr) (D : Cell) (fV fC : Field) (b : Addr) (A : Cell) (z : Int32) (o len : Nat) : Law l yN 5 4 2 35 yB 6 none site (P a D fV fC b A z o len) (E a D fV fC A o len) [⟨a, fC.slot⟩, ⟨a, fV.slot⟩] 1 len := by
  refine Law.of_walk (plainFor_of_name (by decide +kernel)) (by decide +kernel) (by decide +kernel) (by decide) (fun _ _ h => by rw [h.1]; rfl) (fun _ U U' hal hh h => ⟨h.1, h.2.1.mv hal hh, h.2.2.1.al hal, h.2.2.2.1.al hal, h.2.2.2.2.1.mv hal hh, h.2.2.2.2.2.1.there hal hh, h.2.2.2.2.2.2⟩) (fun r U U' V V' h1 hal h2 h => Got.mv r U U' V V' h1 hal h2 h) ?_
  intro p e s m args below meth c s₁ X0 hexec hbytes hml hret hlk hnm hown hh0 W hP
  obtain ⟨rfl, hB, f1, f2, hA, s1, hz, l0, l1, l2, hp⟩ := hP
  have a31 := hA.1.2.2.2
  have c1 : Steps p.tables e below (s₁.setTop (entryFrame m #[.ref a, .ref b, .int (Int32.ofNat o), .int (Int32.ofNat len), .null] 6)) (s₁.setTop (mkF m 0 #[.val (.ref a), .val (.ref b), .val (.int (Int32.ofNat o)), .val (.int (Int32.ofNat len)), .val .null, .unset] [])) := entry rfl
  have c2 : Steps p.tables e below (s₁.setTop (entryFrame m #[.ref a, .ref b, .int (Int32.ofNat o), .int (Int32.ofNat len), .null] 6)) (s₁.setTop (mkF m 1 #[.val (.ref a), .val (.ref b), .val (.int (Int32.ofNat o)), .val (.int (Int32.ofNat len)), .val .null, .unset] [.ref a])) := c1.trans (by
    refine XS.aloadN X0.here hexec rfl (hb hbytes d0) rfl rfl ?_
    exact Steps.refl _)
  obtain ⟨T3, X3, q3, st3⟩ := X0.oinit hexec hown (wks W (objW "java/lang/String" 1)) (g := (mkF m 1 #[.val (.ref a), .val (.ref b), .val (.int (Int32.ofNat o)), .val (.int (Int32.ofNat len)), .val .null, .unset] [.ref a])) rfl (by rw [hml]; rfl) (rest := []) rfl (hb hbytes d1) (W := 0) (by show 2 * 0 + 0 ≤ _; decide) (Nat.le_of_ble_eq_true rfl) (Nat.le_of_ble_eq_true rfl)
  have hh3 := q3.trans hh0
  have c4 : Steps p.tables e below (s₁.setTop (entryFrame m #[.ref a, .ref b, .int (Int32.ofNat o), .int (Int32.ofNat len), .null] 6)) (T3.setTop (mkF m 27 #[.val (.ref a), .val (.ref b), .val (.int (Int32.ofNat o)), .val (.int (Int32.ofNat len)), .val .null, .unset] [])) := (c2.trans (st3 _ (Steps.refl _))).trans (by
    refine XS.iloadN X3.here hexec rfl (hb hbytes d4) rfl ?_
    refine XS.ifYes X3.here hexec rfl (pc0 := 5) rfl (hb hbytes d5) rfl (i0_ne_t (nz32 (by omega) l0)) (by decide) rfl ?_
    exact Steps.refl _)
  obtain ⟨T5, X5, q5, st5⟩ := X3.sget hexec hown (wk W (.fieldLink "java/lang/String" 38 "java/lang/String" "COMPACT_STRINGS" "Z")) s1 (fun _ _ h => by rw [hh3]; exact h) (g := (mkF m 27 #[.val (.ref a), .val (.ref b), .val (.int (Int32.ofNat o)), .val (.int (Int32.ofNat len)), .val .null, .unset] [])) rfl (hb hbytes d27)
  have hh5 := q5.trans hh3
  have c6 : Steps p.tables e below (s₁.setTop (entryFrame m #[.ref a, .ref b, .int (Int32.ofNat o), .int (Int32.ofNat len), .null] 6)) (T5.setTop (mkF m 30 #[.val (.ref a), .val (.ref b), .val (.int (Int32.ofNat o)), .val (.int (Int32.ofNat len)), .val .null, .unset] [.int z])) := c4.trans (st5 _ (Steps.refl _))
  have c7 : Steps p.tables e below (s₁.setTop (entryFrame m #[.ref a, .ref b, .int (Int32.ofNat o), .int (Int32.ofNat len), .null] 6)) (T5.setTop (mkF m 36 #[.val (.ref a), .val (.ref b), .val (.int (Int32.ofNat o)), .val (.int (Int32.ofNat len)), .val .null, .unset] [.int (Int32.ofNat len), .int (Int32.ofNat o), .ref b])) := c6.trans (by
    refine XS.ifNo X5.here hexec rfl (hb hbytes d30) rfl (i0_eq_f hz) ?_
    refine XS.aloadN X5.here hexec rfl (hb hbytes d33) rfl rfl ?_
    refine XS.iloadN X5.here hexec rfl (hb hbytes d34) rfl ?_
    refine XS.iloadN X5.here hexec rfl (hb hbytes d35) rfl ?_
    exact Steps.refl _)
  obtain ⟨v8, T8, X8, E8, g8⟩ := X5.callS hexec (Cmp3.law l b A o len) hown (wks W (staticW "java/lang/String" 177 Cmp3.yN)) (wk W Cmp3.tab) (W := 0) (Nat.le_of_ble_eq_true rfl) (Nat.le_of_ble_eq_true rfl) (Nat.le_refl _) (by show 0 + len ≤ len; omega) (g := (mkF m 36 #[.val (.ref a), .val (.ref b), .val (.int (Int32.ofNat o)), .val (.int (Int32.ofNat len)), .val .null, .unset] [.int (Int32.ofNat len), .int (Int32.ofNat o), .ref b])) rfl (by rw [hml]; rfl) c7 (argsL := [.ref b, .int (Int32.ofNat o), .int (Int32.ofNat len)]) (rest := []) rfl rfl (by show 2 * 0 + 0 ≤ _; decide) (hb hbytes d36) (⟨rfl, hA.mv X5.warmed.alike hh5, l1, l2, hp⟩)
  obtain ⟨e8, z8⟩ := E8
  obtain ⟨rfl, N, n1, n2, n3, n4, n5, n6⟩ := NewArr.mv _ T5 s _ _ hh5.symm (Vm.Alike.refl _) rfl e8
  rw [hh5] at z8
  have hB1 := hB.keep X8.warmed.alike (n6 _ _ hB.1)
  have hne : s.heap.size ≠ a := (Nat.ne_of_lt (Array.getElem?_eq_some_iff.mp hB.1).1).symm
  have c9 : Steps p.tables e below (s₁.setTop (entryFrame m #[.ref a, .ref b, .int (Int32.ofNat o), .int (Int32.ofNat len), .null] 6)) (T8.setTop (mkF m 39 #[.val (.ref a), .val (.ref b), .val (.int (Int32.ofNat o)), .val (.int (Int32.ofNat len)), .val .null, .unset] [.ref s.heap.size])) := g8
  have c10 : Steps p.tables e below (s₁.setTop (entryFrame m #[.ref a, .ref b, .int (Int32.ofNat o), .int (Int32.ofNat len), .null] 6)) (T8.setTop (mkF m 45 #[.val (.ref a), .val (.ref b), .val (.int (Int32.ofNat o)), .val (.int (Int32.ofNat len)), .val .null, .val (.ref s.heap.size)] [.int (Int32.ofNat N.slots.size), .ref s.heap.size, .ref a])) := by
    have hc : Steps p.tables e below (s₁.setTop (entryFrame m #[.ref a, .ref b, .int (Int32.ofNat o), .int (Int32.ofNat len), .null] 6)) (T8.setTop (mkF m 45 #[.val (.ref a), .val (.ref b), .val (.int (Int32.ofNat o)), .val (.int (Int32.ofNat len)), .val .null, .val (.ref s.heap.size)] [.int (Int32.ofNat len), .ref s.heap.size, .ref a])) := c9.trans (by
      refine XS.astore X8.here hexec rfl (hb hbytes d39) rfl rfl rfl ?_
      refine XS.aloadN X8.here hexec rfl (hb hbytes d41) rfl rfl ?_
      refine XS.aload X8.here hexec rfl (hb hbytes d42) rfl rfl ?_
      refine XS.iloadN X8.here hexec rfl (hb hbytes d44) rfl ?_
      exact Steps.refl _)
    rw [n4]; exact hc
  obtain ⟨v11, T11, X11, E11, g11⟩ := X8.callS hexec (CodL.law l s.heap.size N) hown (wks W (staticW "java/lang/String" 47 CodL.yN)) (wk W CodL.tab) (W := 1) (Nat.le_of_ble_eq_true rfl) (Nat.le_of_ble_eq_true rfl) (Nat.le_refl _) (by show 0 + len + 0 ≤ len; omega) (g := (mkF m 45 #[.val (.ref a), .val (.ref b), .val (.int (Int32.ofNat o)), .val (.int (Int32.ofNat len)), .val .null, .val (.ref s.heap.size)] [.int (Int32.ofNat N.slots.size), .ref s.heap.size, .ref a])) rfl (by rw [hml]; rfl) c10 (argsL := [.ref s.heap.size, .int (Int32.ofNat N.slots.size)]) (rest := [.ref a]) rfl rfl (by show 2 * 0 + (1 + 0) ≤ _; decide) (hb hbytes d45) (⟨rfl, n1⟩)
  obtain ⟨rfl, q11⟩ := E11
  have hB11 := hB1.mv (X8.warmed.alike.symm.trans X11.warmed.alike) q11
  have c12 : Steps p.tables e below (s₁.setTop (entryFrame m #[.ref a, .ref b, .int (Int32.ofNat o), .int (Int32.ofNat len), .null] 6)) (T11.setTop (mkF m 48 #[.val (.ref a), .val (.ref b), .val (.int (Int32.ofNat o)), .val (.int (Int32.ofNat len)), .val .null, .val (.ref s.heap.size)] [.int 0, .ref a])) := g11
  obtain ⟨T13, X13, p13, bl13, sl13, st13⟩ := X11.finit hexec hown (wk W (.fieldLink "java/lang/String" 15 "java/lang/String" "coder" "B")) (Or.inr ⟨_, (wk W (.laysFinal "java/lang/String" "java/lang/String" "coder" "B"))⟩) (Or.inl ⟨rfl, hnm⟩) f2 (Or.inl rfl) hB11 (t := .byte) (by decide +kernel) rfl (g := (mkF m 48 #[.val (.ref a), .val (.ref b), .val (.int (Int32.ofNat o)), .val (.int (Int32.ofNat len)), .val .null, .val (.ref s.heap.size)] [.int 0, .ref a])) rfl (rest := []) rfl (hb hbytes d48)
  have c14 : Steps p.tables e below (s₁.setTop (entryFrame m #[.ref a, .ref b, .int (Int32.ofNat o), .int (Int32.ofNat len), .null] 6)) (T13.setTop (mkF m 54 #[.val (.ref a), .val (.ref b), .val (.int (Int32.ofNat o)), .val (.int (Int32.ofNat len)), .val .null, .val (.ref s.heap.size)] [.ref s.heap.size, .ref a])) := (c12.trans (st13 _ (Steps.refl _))).trans (by
    refine XS.aloadN X13.here hexec rfl (hb hbytes d51) rfl rfl ?_
    refine XS.aload X13.here hexec rfl (hb hbytes d52) rfl rfl ?_
    exact Steps.refl _)
  obtain ⟨T15, X15, p15, bl15, sl15, st15⟩ := X13.finit hexec hown (wk W (.fieldLink "java/lang/String" 9 "java/lang/String" "value" "[B")) (Or.inr ⟨_, (wk W (.laysFinal "java/lang/String" "java/lang/String" "value" "[B"))⟩) (Or.inl ⟨rfl, hnm⟩) f1 (Or.inl rfl) bl13 (t := (.array .byte)) (by decide +kernel) rfl (g := (mkF m 54 #[.val (.ref a), .val (.ref b), .val (.int (Int32.ofNat o)), .val (.int (Int32.ofNat len)), .val .null, .val (.ref s.heap.size)] [.ref s.heap.size, .ref a])) rfl (rest := []) rfl (hb hbytes d54)
  have c16 : Steps p.tables e below (s₁.setTop (entryFrame m #[.ref a, .ref b, .int (Int32.ofNat o), .int (Int32.ofNat len), .null] 6)) (T15.setTop (mkF m 57 #[.val (.ref a), .val (.ref b), .val (.int (Int32.ofNat o)), .val (.int (Int32.ofNat len)), .val .null, .val (.ref s.heap.size)] [])) := c14.trans (st15 _ (Steps.refl _))
  have ap := apart (Or.inr ⟨_, (wk W (.laysFinal "java/lang/String" "java/lang/String" "value" "[B"))⟩) (Or.inr ⟨_, (wk W (.laysFinal "java/lang/String" "java/lang/String" "coder" "B"))⟩) f1 f2 (t₁ := .array .byte) (t₂ := .byte) (by decide +kernel) (by decide +kernel) (by decide)
  have al := X8.warmed.alike.symm.trans X15.warmed.alike
  have n7 : T11.heap[s.heap.size]? = some N := by rw [q11]; exact n1.1
  exact ⟨T15, none, _, _, _, X15, by simp, rfl, by omega, (fun _ => rfl), ⟨rfl, _, N, bl15, ((Same.refl D _).set _ (by simp)).set _ (by simp), sl15, (Cell.slots_setSlot_ne _ ap).trans sl13, n1.keep al (p15.other hne (p13.other hne n7)), n2, by rw [al.findClass]; exact n3, n4, n5, fun y c h1 h2 => p15.other h1 (p13.other h1 (by rw [q11]; exact n6 y c h2)), by rw [p15.2.2, p13.2.2, q11]; exact z8⟩, fun fs hl => c16.trans (X15.returnOut hexec hret (hb hbytes d57) hl)⟩
end New4
namespace New1
def yN : MethodName := ⟨"java/lang/String", "<init>", "([C)V"⟩
abbrev yB : ByteArray := jdk_42_method_3_code
theorem d0 : decode yB 0 = .ok (.aload_n 0, 1) := by decide +kernel
theorem d1 : decode yB 1 = .ok (.aload_n 1, 1) := by decide +kernel
theorem d2 : decode yB 2 = .ok (.iconst 0, 1) := by decide +kernel
theorem d3 : decode yB 3 = .ok (.aload_n 1, 1) := by decide +kernel
theorem d4 : decode yB 4 = .ok (.arraylength, 1) := by decide +kernel
theorem d5 : decode yB 5 = .ok (.aconst_null, 1) := by decide +kernel
theorem d6 : decode yB 6 = .ok (.invokespecial 27, 3) := by decide +kernel
theorem d9 : decode yB 9 = .ok (.return_, 1) := by decide +kernel
def site : List Cond := [New4.tab] ++ initW "java/lang/String" 27 New4.yN
def tab : Cond := tabOf yN yB 2 none site
def P (a : Addr) (D : Cell) (fV fC : Field) (b : Addr) (A : Cell) (z : Int32) (args : Array Value) (s : State) : Prop := args = #[.ref a, .ref b] ∧ Blank "java/lang/String" a D s ∧ Found "java/lang/String" "value" "[B" fV s ∧ Found "java/lang/String" "coder" "B" fC s ∧ Ch b A s ∧ StaticIs s "java/lang/String" "COMPACT_STRINGS" "Z" (.int z) ∧ ¬ z = 0 ∧ 0 < A.slots.size ∧ A.slots.size ≤ 536870912 ∧ ∀ i, i < A.slots.size → ¬ 255 < cv A i
def E (a : Addr) (D : Cell) (fV fC : Field) (A : Cell) (r : Option Value) (s u : State) : Prop := Got a D fV fC A 0 A.slots.size r s u
/-- new String(chars), not empty, no char above 255: a Latin-1 String of their low bytes -/
theorem law (l : Launch) (a : Addr) (D : Cell) (fV fC : Field) (b : Addr) (A : Cell) (z : Int32) : Law l yN 2 1 3 52 yB 2 none site (P a D fV fC b A z) (E a D fV fC A) [⟨a, fC.slot⟩, ⟨a, fV.slot⟩] 1 A.slots.size := by
  refine Law.of_walk (plainFor_of_name (by decide +kernel)) (by decide +kernel) (by decide +kernel) (by decide) (fun _ _ h => by rw [h.1]; rfl) (fun _ U U' hal hh h => ⟨h.1, h.2.1.mv hal hh, h.2.2.1.al hal, h.2.2.2.1.al hal, h.2.2.2.2.1.mv hal hh, h.2.2.2.2.2.1.there hal hh, h.2.2.2.2.2.2⟩) (fun r U U' V V' h1 hal h2 h => Got.mv r U U' V V' h1 hal h2 h) ?_
  intro p e s m args below meth c s₁ X0 hexec hbytes hml hret hlk hnm hown hh0 W hP
  obtain ⟨rfl, hB, f1, f2, hA, s1, hz, l0, l2, hp⟩ := hP
  have c1 : Steps p.tables e below (s₁.setTop (entryFrame m #[.ref a, .ref b] 2)) (s₁.setTop (mkF m 0 #[.val (.ref a), .val (.ref b)] [])) := entry rfl
  have c2 : Steps p.tables e below (s₁.setTop (entryFrame m #[.ref a, .ref b] 2)) (s₁.setTop (mkF m 6 #[.val (.ref a), .val (.ref b)] [.null, .int (Int32.ofNat A.slots.size), .int 0, .ref b, .ref a])) := c1.trans (by
    refine XS.aloadN X0.here hexec rfl (hb hbytes d0) rfl rfl ?_
    refine XS.aloadN X0.here hexec rfl (hb hbytes d1) rfl rfl ?_
    refine iconstV X0.here hexec rfl 0 (hb hbytes d2) (by decide) ?_
    refine XS.aloadN X0.here hexec rfl (hb hbytes d3) rfl rfl ?_
    refine X0.alen hexec (hA.1.mv X0.warmed.alike hh0) rfl rfl (hb hbytes d4) ?_
    refine XS.aconstNull X0.here hexec rfl (hb hbytes d5) ?_
    exact Steps.refl _)
  obtain ⟨v3, T3, X3, E3, g3⟩ := X0.callN hexec (New4.law l a D fV fC b A z 0 A.slots.size) rfl hown (wks W (initW "java/lang/String" 27 New4.yN)) (W New4.tab (by simp only [site, List.mem_cons, List.mem_append, true_or, or_true])) (W := 0) (Nat.le_of_ble_eq_true rfl) (Nat.le_of_ble_eq_true rfl) (Nat.le_refl _) (by show 0 + A.slots.size ≤ A.slots.size; omega) (g := (mkF m 6 #[.val (.ref a), .val (.ref b)] [.null, .int (Int32.ofNat A.slots.size), .int (Int32.ofNat 0), .ref b, .ref a])) rfl (by rw [hml]; rfl) c2 (argsL := [.ref b, .int (Int32.ofNat 0), .int (Int32.ofNat A.slots.size), .null]) (rest := []) rfl rfl (by show 2 * 0 + 0 ≤ _; decide) (hb hbytes d6) (⟨rfl, hB.mv X0.warmed.alike hh0, f1.al X0.warmed.alike, f2.al X0.warmed.alike, hA.mv X0.warmed.alike hh0, s1.there X0.warmed.alike hh0, hz, l0, by omega, l2, fun i hi => by rw [Nat.zero_add]; exact hp i hi⟩)
  have e0 := Got.mv _ s₁ s _ _ hh0.symm (Vm.Alike.refl _) rfl E3
  obtain rfl := e0.1
  have c4 : Steps p.tables e below (s₁.setTop (entryFrame m #[.ref a, .ref b] 2)) (T3.setTop (mkF m 9 #[.val (.ref a), .val (.ref b)] [])) := g3
  exact ⟨T3, none, _, _, _, X3, by simp, rfl, by omega, (fun _ => rfl), e0, fun fs hl => c4.trans (X3.returnOut hexec hret (hb hbytes d9) hl)⟩
theorem pays {l : Launch} {R : Room} {p : Program} {e : Env} {below : List Frame} {s : State} {sargs : Array Value} {len W : Nat} (a : Addr) (D : Cell) (fV fC : Field) (b : Addr) (A : Cell) (z : Int32) (htab : tab.before sargs s = true) (hfr : 4 ≤ R.frames) (hlo : W + 65 ≤ R.locals) :
    Back l R p e below s sargs yN len W (fun A₁ a₁ => A₁.cells + 1 ≤ R.cells ∧ A₁.slots + A.slots.size ≤ R.slots ∧ P a D fV fC b A z a₁ A₁.U) (fun A₁ _ v₁ B₁ => E a D fV fC A v₁ A₁.U B₁.U ∧ B₁.locs = A₁.locs ++ [⟨a, fC.slot⟩, ⟨a, fV.slot⟩] ∧ B₁.cells = A₁.cells + 1 ∧ B₁.slots = A₁.slots + A.slots.size) :=
  (law l a D fV fC b A z).pays htab hfr (by omega)
end New1
/-- the byte, read back as charAt reads it, is the char -/
theorem lo8_mask {x : Int32} (h0 : ¬ x < 0) (h1 : ¬ 255 < x) : lo8 x &&& 255 = x := by
  have t : ∀ k : Fin 256, lo8 (Int32.ofNat k.val) &&& 255 = Int32.ofNat k.val := by decide +kernel
  rw [Int32.lt_iff_toInt_lt] at h0 h1
  have e0 : (0 : Int32).toInt = 0 := rfl
  have e1 : (255 : Int32).toInt = 255 := rfl
  obtain ⟨k, hk⟩ : ∃ k : Nat, x.toInt = k := ⟨x.toInt.toNat, by omega⟩
  have hx : x = Int32.ofNat k := Int32.toInt_inj.mp (by rw [hk, Int32.toInt_ofNat_small (by omega)])
  rw [hx]
  exact t ⟨k, by omega⟩
end StrChars
namespace StrChars.Road
open Jvm Sem ClassFile Op Lib Jvm.Stand Jvm.Free Jvm.Free.XT
open Jvm.Lib.Cold (StaticIs)
abbrev ST : String := "java/lang/String"
/-- every table word that New1's law asks, flat -/
abbrev words : List Jvm.Cond := [.code New1.yN New1.yB 2 none, .initialized ST, .methodLink ST 27 New4.yN, .instanceMethod New4.yN,
  .code New4.yN New4.yB 6 none, .fieldLink ST 38 ST "COMPACT_STRINGS" "Z", .laysFinal ST ST "value" "[B", .fieldLink ST 9 ST "value" "[B", .laysFinal ST ST "coder" "B", .fieldLink ST 15 ST "coder" "B",
  .methodLink ST 1 Lib.objectInit, .instanceMethod Lib.objectInit, .code Lib.objectInit ⟨#[0xb1]⟩ 1 none, .methodLink ST 177 Cmp3.yN, .static Cmp3.yN, .methodLink ST 47 CodL.yN, .static CodL.yN,
  .code Cmp3.yN Cmp3.yB 6 (some (.array .byte)), .initialized U16, .arrayClass .byte, .methodLink U16 115 Cmp5.yN, .static Cmp5.yN, .code Cmp5.yN Cmp5.yB 7 (some .int), .code CodL.yN CodL.yB 2 (some .byte)]
theorem tab_of {a : Array Value} {s : State} (h : ∀ w ∈ words, w.before a s = true) : New1.tab.before a s = true := by
  have h5 : Cmp5.tab.before a s = true := unparts (wk h (.code Cmp5.yN Cmp5.yB 7 (some .int))) (wks h (.initialized Cmp5.yN.cls :: Cmp5.site))
  have hc : CodL.tab.before a s = true := unparts (wk h (.code CodL.yN CodL.yB 2 (some .byte))) (wks h (.initialized CodL.yN.cls :: CodL.site))
  have q5 : ∀ w ∈ Cmp5.tab :: words, w.before a s = true := fun w hw => (List.mem_cons.mp hw).elim (fun e => e ▸ h5) (h w)
  have h3 : Cmp3.tab.before a s = true := unparts (wk q5 (.code Cmp3.yN Cmp3.yB 6 (some (.array .byte)))) (wks q5 (.initialized Cmp3.yN.cls :: Cmp3.site))
  have q3 : ∀ w ∈ Cmp3.tab :: CodL.tab :: words, w.before a s = true := fun w hw => (List.mem_cons.mp hw).elim (fun e => e ▸ h3) fun hw => (List.mem_cons.mp hw).elim (fun e => e ▸ hc) (h w)
  have h4 : New4.tab.before a s = true := unparts (wk q3 (.code New4.yN New4.yB 6 none)) (wks q3 (.initialized New4.yN.cls :: New4.site))
  have q4 : ∀ w ∈ New4.tab :: words, w.before a s = true := fun w hw => (List.mem_cons.mp hw).elim (fun e => e ▸ h4) (h w)
  exact unparts (wk q4 (.code New1.yN New1.yB 2 none)) (wks q4 (.initialized New1.yN.cls :: New1.site))
/-- the words ride from the start Z to the walk's own state -/
theorem moved {Z s : State} {a0 args : Array Value} (hZ : Z.Warmed39 s.vm) (hw : ∀ d ∈ words, d.before a0 Z = true) : ∀ d ∈ words, d.before args s = true := fun d hd => by
  have q := hw d hd
  have t : ∀ d ∈ words, d = .arrayClass .byte ∨ (d.onTables && d.keepsFace) = true := by decide +kernel
  rcases t d hd with rfl | t
  · exact RoadKit.mvA hZ q
  · exact RoadKit.mv hZ q t
/-- WHAT COMES BACK, over the tables of the start Z: h the heap at the call, h' behind it -/
def Q (Z : State) (x : Addr) (A : Cell) (h : Heap) (v : Option Value) (h' : Heap) (L : List Loc) : Prop := v = none ∧ (∀ y ∈ L, y.base = x) ∧ RoadKit.Keep h h' [x] ∧ h'.size = h.size + 1 ∧ RoadKit.Exa Z h' x ST ∧ RoadKit.Fld Z h' x ST "value" "[B" (.ref h.size) ∧ RoadKit.Fld Z h' x ST "coder" "B" (.int 0) ∧
  (∃ V : Cell, RoadKit.Arr Z h' h.size V .byte ∧ V.vm = .none ∧ Z.vm.findClass "[B" = some V.cls ∧ V.slots.size = A.slots.size ∧ ∀ j, j < A.slots.size → V.slots[j]? = some (.int (lo8 (cv A j)))) ∧
  ∀ (O n d : String) (w : Value), RoadKit.Fld Z h x O n d w → RoadKit.slotOf Z O n d ≠ RoadKit.slotOf Z ST "value" "[B" → RoadKit.slotOf Z O n d ≠ RoadKit.slotOf Z ST "coder" "B" → RoadKit.Fld Z h' x O n d w
/-- **new String(chars) AT A CALL, IN THE ROAD'S FORM**: for specialBack behind newO: x the fresh String, b the char[] with the cell A -/
theorem back {p : Program} {l : Launch} {e : Env} {R : Room} {s : State} {args : Array Value} {below : List Frame} {len W : Nat} {Z : State} {a0 : Array Value} {h : Heap} (hZ : Z.Warmed39 s.vm) (hw : ∀ d ∈ words, d.before a0 Z = true) {kI : Nat} (wi : (Jvm.Cond.instantiable ST kI).before a0 Z = true)
    {x b : Addr} {A : Cell} {z : Int32} {v0 c0 : Value} (E : RoadKit.Exa Z h x ST) (V : RoadKit.Fld Z h x ST "value" "[B" v0) (C : RoadKit.Fld Z h x ST "coder" "B" c0) (K : RoadKit.Arr Z h b A .char) (hty : Typed .char A) (S : RoadKit.Sta Z h ST "COMPACT_STRINGS" "Z" (.int z)) (hz : ¬ z = 0)
    (l0 : 0 < A.slots.size) (l2 : A.slots.size ≤ 536870912) (hp : ∀ i, i < A.slots.size → ¬ 255 < cv A i) (hfr : 4 ≤ R.frames) (hlo : W + 65 ≤ R.locals) :
    Back l R p e below s args New1.yN len W (fun P a => a = #[.ref x, .ref b] ∧ P.U.heap = h ∧ P.cells + 1 ≤ R.cells ∧ P.slots + A.slots.size ≤ R.slots)
      (fun P _ v B => ∃ L, Q Z x A h v B.U.heap L ∧ B.locs = P.locs ++ L ∧ B.cells = P.cells + 1 ∧ B.slots = P.slots + A.slots.size) := by
  intro m meth c P g ig mk a X hg hsize hdg hW hn hp'
  obtain ⟨rfl, rfl, r1, r2⟩ := hp'
  have al : Z.vm.Alike P.U.vm := hZ.alike.trans X.warmed.alike
  obtain ⟨D, cfV, kV, iV, fV, hD, gV, stV, knV, obV, asV, slV⟩ := id V
  obtain ⟨D', cfC, kC, iC, fC, hD', gC, stC, -, -, asC, slC⟩ := id C
  cases hD.symm.trans hD'
  obtain ⟨D2, kD, e1, e2, e3, e4, e5⟩ := id E
  cases hD.symm.trans e1
  obtain ⟨c2, k2, i1, i2, i3, -⟩ := Cond.instantiable_spec wi
  cases e2.symm.trans i1
  cases e3.symm.trans i2
  obtain ⟨kU, u1, u2⟩ := al.2.2 _ _ e3
  have hB : Blank ST x D P.U := ⟨hD, ⟨knV, fun q hq => by rw [hq] at obV; cases obV⟩, by rw [al.findClass]; exact e2, kU, u1, by rw [u2]; exact i3, by rw [u2]; exact e5 i3⟩
  have F1 : Found ST "value" "[B" fV P.U := ⟨SBG.found_only al ⟨cfV, kV, iV, gV⟩, stV⟩
  have F2 : Found ST "coder" "B" fC P.U := ⟨SBG.found_only al ⟨cfC, kC, iC, gC⟩, stC⟩
  have hA : Ch b A P.U := ⟨⟨K.1, State.isArrayOf_alike al K.2.1, K.2.2, by omega⟩, hty⟩
  have hS : StaticIs P.U ST "COMPACT_STRINGS" "Z" (.int z) := by
    obtain ⟨cfS, iS, kS, fS, st, cS, t1, t2, t3, t4, t5, t6, t7⟩ := S
    exact StaticIs.there (s := { Z with heap := P.U.heap }) ⟨cfS, iS, kS, fS, st, cS, t1, t2, t3, t4, t5, (fun q => by rw [q] at t6; cases t6), t7⟩ al rfl
  obtain ⟨v, B, X', ⟨⟨hv, E', V', q1, q2, q3, q4, q5, q6, q7, q8, q9, q10, q11⟩, hl, hc, hs⟩, st⟩ := New1.pays x D fV fC b A z (tab_of (moved hZ hw)) hfr hlo m meth c P g ig mk _ X hg hsize hdg hW hn ⟨r1, r2, rfl, hB, F1, F2, hA, hS, hz, l0, l2, hp⟩
  have al' : Z.vm.Alike B.U.vm := hZ.alike.trans X'.warmed.alike
  have hsz : E'.slots.size = D.slots.size := by
    obtain ⟨-, -, -, kB, w1, w2, w3⟩ := q1
    obtain ⟨kB', y1, y2⟩ := al'.2.2 _ _ e3
    rw [q2.2.1] at w1
    cases w1.symm.trans y1
    rw [w3, e5 i3, y2]
  refine ⟨v, B, X', ⟨_, ⟨hv, ?_, ⟨by omega, fun y cy hy hn' => q10 y cy (by simpa using hn') hy, fun y cy hy => ?_⟩, q11, ⟨E', _, q1.1, by rw [q2.2.1]; exact e2, by rw [q2.2.1]; exact e3, by rw [q2.1]; exact obV, fun _ => by rw [hsz]; exact e5 i3⟩,
    ⟨E', cfV, kV, iV, fV, q1.1, gV, stV, by rw [q2.1]; exact knV, by rw [q2.1]; exact obV, by rw [q2.2.1]; exact asV, q3⟩, ⟨E', cfC, kC, iC, fC, q1.1, gC, stC, by rw [q2.1]; exact knV, by rw [q2.1]; exact obV, by rw [q2.2.1]; exact asC, q4⟩,
    ⟨V', ⟨q5.1, State.isArrayOf_alike al'.symm q5.2.1, q5.2.2.1⟩, q6, by rw [← al'.findClass]; exact q7, q8, fun j hj => by have := q9 j hj; rwa [Nat.zero_add] at this⟩, fun O n d w F n1 n2 => ?_⟩, hl, hc, hs⟩, st⟩
  · intro y hy
    simp only [List.mem_cons, List.not_mem_nil, or_false] at hy
    rcases hy with rfl | rfl <;> rfl
  · by_cases q : y = x
    · subst q
      cases hD.symm.trans hy
      exact ⟨E', q1.1, q2.2.1, q2.1, hsz⟩
    · exact ⟨cy, q10 y cy q hy, rfl, rfl, rfl⟩
  · obtain ⟨D3, cf, k, i, f, g1, g2, g3, g4, g5, g6, g7⟩ := F
    cases hD.symm.trans g1
    simp only [RoadKit.slotOf, g2, gV, gC, Option.map_some, Option.getD_some] at n1 n2
    exact ⟨E', cf, k, i, f, q1.1, g2, g3, by rw [q2.1]; exact g4, by rw [q2.1]; exact g5, by rw [q2.2.1]; exact g6, by rw [q2.2.2 f.slot (by simp [n1, n2])]; exact g7⟩
end StrChars.Road
namespace StrChars.Road
open Jvm Sem ClassFile Op Lib Jvm.Stand Jvm.Free Jvm.Free.XT
/-- WHAT COMES BACK, the byte[] as a list of values -/
def QA (Z : State) (x : Addr) (zn : Int32) (cs : List Int32) (h : Heap) (v : Option Value) (h' : Heap) (L : List Loc) : Prop := v = none ∧ (∀ y ∈ L, y.base = x) ∧ RoadKit.Keep h h' [x] ∧ h'.size = h.size + 1 ∧ RoadKit.Exa Z h' x ST ∧ RoadKit.Fld Z h' x ST "value" "[B" (.ref h.size) ∧ RoadKit.Fld Z h' x ST "coder" "B" (.int 0) ∧
  (∃ kb, Z.vm.findClass "[B" = some kb ∧ RoadKit.Arv Z h' h.size kb .byte zn (cs.map fun c => .int (lo8 c)) (.int 0)) ∧
  ∀ (O n d : String) (w : Value), RoadKit.Fld Z h x O n d w → RoadKit.slotOf Z O n d ≠ RoadKit.slotOf Z ST "value" "[B" → RoadKit.slotOf Z O n d ≠ RoadKit.slotOf Z ST "coder" "B" → RoadKit.Fld Z h' x O n d w
/-- **new String(chars) AT A CALL, THE ARRAYS AS LISTS**: the char[] at b holds cs, not empty, no char above 255 -/
theorem backArv {p : Program} {l : Launch} {e : Env} {R : Room} {s : State} {args : Array Value} {below : List Frame} {len W : Nat} {Z : State} {a0 : Array Value} {h : Heap} (hZ : Z.Warmed39 s.vm) (hw : ∀ d ∈ words, d.before a0 Z = true) {kI : Nat} (wi : (Jvm.Cond.instantiable ST kI).before a0 Z = true)
    {x b : Addr} {k : ClassId} {zn z : Int32} {cs : List Int32} {dv v0 c0 : Value} (E : RoadKit.Exa Z h x ST) (V : RoadKit.Fld Z h x ST "value" "[B" v0) (C : RoadKit.Fld Z h x ST "coder" "B" c0) (K : RoadKit.Arv Z h b k .char zn (cs.map Value.int) dv) (S : RoadKit.Sta Z h ST "COMPACT_STRINGS" "Z" (.int z)) (hz : ¬ z = 0)
    (hlen : zn.toNatClampNeg = cs.length) (h0 : 0 < cs.length) (hbig : cs.length ≤ 536870912) (hall : ∀ c ∈ cs, ¬ 255 < c) (hfr : 4 ≤ R.frames) (hlo : W + 65 ≤ R.locals) :
    Back l R p e below s args New1.yN len W (fun P a => a = #[.ref x, .ref b] ∧ P.U.heap = h ∧ P.cells + 1 ≤ R.cells ∧ P.slots + cs.length ≤ R.slots)
      (fun P _ v B => ∃ L, QA Z x zn cs h v B.U.heap L ∧ B.locs = P.locs ++ L ∧ B.cells = P.cells + 1 ∧ B.slots = P.slots + cs.length) := by
  obtain ⟨A, K1, K2, K3, K4, K5, K6⟩ := K
  have e : A.slots.size = cs.length := K3.trans hlen
  have hat : ∀ (i : Nat) (hi : i < cs.length), A.slots[i]? = some (.int cs[i]) := fun i hi => by rw [K5 i (by omega)]; simp [List.getD_eq_getElem?_getD, hi]
  have hcv : ∀ (i : Nat) (hi : i < cs.length), cv A i = cs[i] := fun i hi => by unfold cv; rw [hat i hi]
  have hty : Typed .char A := fun i v hv => by
    have hi : i < A.slots.size := (Array.getElem?_eq_some_iff.mp hv).1
    have q := K5 i hi
    rw [hv] at q
    rw [Option.some.inj q]
    exact K6 i hi
  refine Back.mono (back hZ hw wi E V C K1 hty S hz (by omega) (by omega) (fun i hi => by rw [hcv i (by omega)]; exact hall _ (List.getElem_mem _)) hfr hlo) (fun P a hp => ⟨hp.1, hp.2.1, hp.2.2.1, by rw [e]; exact hp.2.2.2⟩) (fun P a v B hp hq => ?_)
  obtain ⟨L, ⟨q1, q2, q3, q4, q5, q6, q7, ⟨V', v1, v2, v3, v4, v5⟩, q9⟩, hl, hc, hs⟩ := hq
  refine ⟨L, ⟨q1, q2, q3, q4, q5, q6, q7, ⟨V'.cls, v3, V', v1, rfl, by rw [v4, e, hlen], K4, fun i hi => ?_, fun i hi => ?_⟩, q9⟩, hl, hc, by rw [hs, e]⟩
  · have hi' : i < cs.length := by omega
    rw [v5 i (by omega), hcv i hi']; simp [List.getD_eq_getElem?_getD, hi']
  · have hi' : i < cs.length := by omega
    simp only [List.getD_eq_getElem?_getD, List.getElem?_map, List.getElem?_eq_getElem hi', Option.map_some, Option.getD_some]
    exact fits_lo8 _
end StrChars.Road
namespace StrChars.Road
open Jvm Sem ClassFile Op Lib Jvm.Stand Jvm.Free Jvm.Free.XT
/-- WHAT COMES BACK, in the writer's own shape -/
def QV (Z : State) (x : Addr) (N : Int32) (bs : List Int32) (h : Heap) (n0 : Nat) (v : Option Value) (h' : Heap) (L : List Loc) : Prop := v = none ∧ RoadKit.Fr n0 L ∧ RoadKit.Keep h h' [x] ∧ RoadKit.Exa Z h' x ST ∧ RoadKit.Fld Z h' x ST "coder" "B" (.int 0) ∧
  ∃ (t : Addr) (kb : ClassId), n0 ≤ t ∧ h.size ≤ t ∧ ¬ t = x ∧ RoadKit.Fld Z h' x ST "value" "[B" (.ref t) ∧ RoadKit.Arv Z h' t kb .byte N (bs.map Value.int) (.int 0)
/-- **new String(chars) AT A CALL, FOR THE WRITER**: a char[] of n known ints, each 0 to 255 -/
theorem backV {p : Program} {l : Launch} {e : Env} {R : Room} {s : State} {args : Array Value} {below : List Frame} {len W : Nat} {Z : State} {a0 : Array Value} {h : Heap} (hZ : Z.Warmed39 s.vm) (hw : ∀ d ∈ words, d.before a0 Z = true) {kI : Nat} (wi : (Jvm.Cond.instantiable ST kI).before a0 Z = true)
    {x b : Addr} {kC : ClassId} {cs bs : List Int32} {d v0 c0 : Value} {z N : Int32} {n n0 : Nat} (hx0 : n0 ≤ x) (hh0 : n0 ≤ h.size) (E : RoadKit.Exa Z h x ST) (V : RoadKit.Fld Z h x ST "value" "[B" v0) (C : RoadKit.Fld Z h x ST "coder" "B" c0) (K : RoadKit.Arv Z h b kC .char N (cs.map Value.int) d) (S : RoadKit.Sta Z h ST "COMPACT_STRINGS" "Z" (.int z)) (hz : ¬ z = 0)
    (hn : cs.length = n) (hN : N = Int32.ofNat n) (l0 : 0 < n) (l2 : n ≤ 4000) (hp : ∀ c ∈ cs, ¬ c < 0 ∧ ¬ (255 : Int32) < c) (hb : bs = cs.map (fun c => c.toInt8.toInt32)) (hfr : 4 ≤ R.frames) (hlo : W + 65 ≤ R.locals) :
    Back l R p e below s args (⟨"java/lang/String", "<init>", "([C)V"⟩ : MethodName) len W (fun P a => a = #[.ref x, .ref b] ∧ P.U.heap = h ∧ P.cells + 1 ≤ R.cells ∧ P.slots + n ≤ R.slots)
      (fun P _ v B => ∃ L, QV Z x N bs h n0 v B.U.heap L ∧ B.locs = P.locs ++ L ∧ B.cells = P.cells + 1 ∧ B.slots = P.slots + n) := by
  subst hn hN hb
  refine Back.mono (backArv hZ hw wi E V C K S hz (n32 (by omega)) l0 (by omega) (fun c hc => (hp c hc).2) hfr hlo) (fun P a hp => hp) (fun P a v B hp hq => ?_)
  obtain ⟨L, ⟨q1, q2, q3, q4, q5, q6, q7, ⟨kb, v1, v2⟩, q9⟩, hl, hc, hs⟩ := hq
  exact ⟨L, ⟨q1, fun y hy => by rw [q2 y hy]; exact hx0, q3, q5, q7, h.size, kb, hh0, Nat.le_refl _, Nat.ne_of_gt E.lt, q6, by rw [List.map_map]; exact v2⟩, hl, hc, hs⟩
end StrChars.Road
namespace StrChars
open Jvm Sem ClassFile Op Lib Jvm.Stand Jvm.Free.XT Jvm.Free.ALB Jvm.Free.JM Jvm.Free
open Jvm.Lib.Cold (StaticIs)
def hi8 (x : Int32) : Int32 := lo8 (x >>> ((8 : Int32) &&& 31))
/-- what StringUTF16.getChar makes of two bytes -/
def pairCh (u v : Int32) : Int32 := (((u &&& 255) <<< ((0 : Int32) &&& 31)) ||| ((v &&& 255) <<< ((8 : Int32) &&& 31))).toUInt32.toUInt16.toUInt32.toInt32
theorem shr0 (c : Int32) : c >>> ((0 : Int32) &&& 31) = c := by
  have e : ((0 : Int32) &&& 31) = 0 := by decide
  rw [e]
  apply Int32.toBitVec_inj.mp
  rw [Int32.toBitVec_shiftRight]
  have e1 : ((0 : Int32).toBitVec.smod 32) = 0#32 := by decide
  rw [e1, BitVec.sshiftRight_eq']
  exact BitVec.sshiftRight_zero
theorem lo8_and (x : Int32) : (lo8 x &&& 255).toBitVec.toNat = x.toBitVec.toNat % 256 := by
  have h : (lo8 x).toBitVec = (x.toBitVec.signExtend 8).signExtend 32 := by rw [lo8, Int8.toBitVec_toInt32, Int32.toBitVec_toInt8]
  rw [Int32.toBitVec_and, BitVec.toNat_and, h]
  have e : ((x.toBitVec.signExtend 8).signExtend 32).toNat % 256 = x.toBitVec.toNat % 256 := by
    rw [BitVec.toNat_signExtend]
    have hlt := x.toBitVec.isLt
    simp only [BitVec.toNat_setWidth, BitVec.toNat_signExtend]
    split <;> split <;> omega
  rw [← e]
  exact Nat.and_two_pow_sub_one_eq_mod _ 8
theorem pair_says {c : Int32} (h0 : ¬ c < 0) (h1 : ¬ 65535 < c) : pairCh (lo8 c) (hi8 c) = c := by
  rw [Int32.lt_iff_toInt_lt] at h0 h1
  have e0 : (0 : Int32).toInt = 0 := rfl
  have e1 : (65535 : Int32).toInt = 65535 := rfl
  have hc : c.toInt = c.toBitVec.toNat := by
    have := c.toBitVec.isLt
    have e : c.toInt = c.toBitVec.toInt := rfl
    rw [e] at h0 h1
    rw [e]
    rw [BitVec.toInt_eq_toNat_cond] at h0 h1 ⊢
    split at h0 <;> split <;> omega
  have hn : c.toBitVec.toNat < 65536 := by omega
  have a1 := lo8_and c
  have a2 : (hi8 c &&& 255).toBitVec.toNat = c.toBitVec.toNat / 256 := by
    rw [hi8, lo8_and]
    have e : ((8 : Int32) &&& 31) = 8 := by decide
    rw [e, Int32.toBitVec_shiftRight]
    have e2 : ((8 : Int32).toBitVec.smod 32) = 8#32 := by decide
    rw [e2, BitVec.sshiftRight_eq', BitVec.toNat_sshiftRight_of_msb_false (by rw [BitVec.msb_eq_false_iff_two_mul_lt]; omega)]
    show c.toBitVec.toNat >>> 8 % 256 = _
    rw [Nat.shiftRight_eq_div_pow]
    omega
  unfold pairCh
  apply Int32.toBitVec_inj.mp
  apply BitVec.eq_of_toNat_eq
  have f0 : ((0 : Int32) &&& 31) = 0 := by decide
  have f8 : ((8 : Int32) &&& 31) = 8 := by decide
  rw [f0, f8]
  have g : (((lo8 c &&& 255) <<< (0 : Int32)) ||| ((hi8 c &&& 255) <<< (8 : Int32))).toBitVec.toNat = c.toBitVec.toNat := by
    rw [Int32.toBitVec_or, Int32.toBitVec_shiftLeft, Int32.toBitVec_shiftLeft]
    have s0 : ((0 : Int32).toBitVec.smod 32) = 0#32 := by decide
    have s8 : ((8 : Int32).toBitVec.smod 32) = 8#32 := by decide
    rw [s0, s8, BitVec.toNat_or]
    simp only [BitVec.shiftLeft_eq', BitVec.toNat_shiftLeft, a1, a2]
    show (c.toBitVec.toNat % 256) <<< 0 % 2 ^ 32 ||| (c.toBitVec.toNat / 256) <<< 8 % 2 ^ 32 = _
    rw [Nat.shiftLeft_zero, Nat.mod_eq_of_lt (show c.toBitVec.toNat % 256 < 2 ^ 32 by omega), Nat.mod_eq_of_lt (show (c.toBitVec.toNat / 256) <<< 8 < 2 ^ 32 by rw [Nat.shiftLeft_eq]; omega), Nat.or_comm, ← Nat.shiftLeft_add_eq_or_of_lt (by omega), Nat.shiftLeft_eq]
    omega
  show BitVec.toNat (((((lo8 c &&& 255) <<< (0 : Int32)) ||| ((hi8 c &&& 255) <<< (8 : Int32))).toBitVec.setWidth 16).setWidth 32) = _
  rw [BitVec.toNat_setWidth, BitVec.toNat_setWidth, g]
  omega
end StrChars
namespace StrChars
open Jvm Sem ClassFile Op Lib Jvm.Stand Jvm.Free.XT Jvm.Free.ALB Jvm.Free.JM Jvm.Free
open Jvm.Lib.Cold (StaticIs)
theorem shr1 {n : Nat} (h : 2 * n < 2 ^ 31) : Int32.ofNat (2 * n) >>> ((1 : Int32) &&& 31) = Int32.ofNat n := by
  have e : ((1 : Int32) &&& 31) = 1 := by decide
  rw [e]
  apply Int32.toBitVec_inj.mp
  rw [Int32.toBitVec_shiftRight]
  have e1 : ((1 : Int32).toBitVec.smod 32) = 1#32 := by decide
  have hm : (BitVec.ofNat 32 (2 * n)).toNat = 2 * n := by rw [BitVec.toNat_ofNat, Nat.mod_eq_of_lt (by omega)]
  rw [e1, BitVec.sshiftRight_eq']
  apply BitVec.eq_of_toNat_eq
  show ((BitVec.ofNat 32 (2 * n)).sshiftRight 1).toNat = (BitVec.ofNat 32 n).toNat
  rw [BitVec.toNat_sshiftRight_of_msb_false (by rw [BitVec.msb_eq_false_iff_two_mul_lt, hm]; omega), hm, BitVec.toNat_ofNat, Nat.shiftRight_eq_div_pow]
  omega
/-- charAt's cast of a byte read back -/
def chr8 (u : Int32) : Int32 := (u &&& 255).toUInt32.toUInt16.toUInt32.toInt32
theorem chr8_lo8 {c : Int32} (h0 : ¬ c < 0) (h1 : ¬ 255 < c) : chr8 (lo8 c) = c := by
  have t : ∀ k : Fin 256, (Int32.ofNat k.val).toUInt32.toUInt16.toUInt32.toInt32 = Int32.ofNat k.val := by decide +kernel
  unfold chr8
  rw [lo8_mask h0 h1]
  rw [Int32.lt_iff_toInt_lt] at h0 h1
  have e0 : (0 : Int32).toInt = 0 := rfl
  have e1 : (255 : Int32).toInt = 255 := rfl
  obtain ⟨k, hk⟩ : ∃ k : Nat, c.toInt = k := ⟨c.toInt.toNat, by omega⟩
  have hx : c = Int32.ofNat k := Int32.toInt_inj.mp (by rw [hk, Int32.toInt_ofNat_small (by omega)])
  rw [hx]
  exact t ⟨k, by omega⟩
theorem narrow_ch {c : Int32} (h0 : ¬ c < 0) (h1 : ¬ 65535 < c) : narrow .char (.int c) = .int c := by
  have q : narrow .char (.int (pairCh (lo8 c) (hi8 c))) = .int (pairCh (lo8 c) (hi8 c)) := narrow_c _
  rwa [pair_says h0 h1] at q
/-- the array's cell V codes the n chars f 0 .. f (n - 1) by the coder cd, as the JDK does: coder 1 just where some char is above 255 -/
def Cod (cd : Int32) (n : Nat) (f : Nat → Int32) (V : Cell) : Prop := (cd = 0 ∧ V.slots.size = n ∧ ∀ j, j < n → V.slots[j]? = some (.int (lo8 (f j))) ∧ ¬ 255 < f j) ∨ (cd = 1 ∧ V.slots.size = 2 * n ∧ (∀ j, j < n → V.slots[2 * j]? = some (.int (lo8 (f j))) ∧ V.slots[2 * j + 1]? = some (.int (hi8 (f j)))) ∧ ∃ j, j < n ∧ 255 < f j)
theorem Cod.cd {cd : Int32} {n : Nat} {f : Nat → Int32} {V : Cell} (h : Cod cd n f V) : cd = 0 ∨ cd = 1 := h.imp (fun q => q.1) fun q => q.1
theorem Cod.len {cd : Int32} {n : Nat} {f : Nat → Int32} {V : Cell} (h : Cod cd n f V) (hs : V.slots.size < 2 ^ 31) : Int32.ofNat V.slots.size >>> (cd &&& 31) = Int32.ofNat n := by
  rcases h with ⟨rfl, h, -⟩ | ⟨rfl, h, -⟩
  · rw [shr0, h]
  · rw [h, shr1 (by omega)]
/-- **x is a String of the n chars f 0 .. f (n - 1)**, Latin-1 or UTF-16; its array at t has the cell V -/
def Txt (x t : Addr) (V : Cell) (cd : Int32) (n : Nat) (f : Nat → Int32) (U : State) : Prop := Exact "java/lang/String" x U ∧ Has x "java/lang/String" "value" "[B" (.ref t) U ∧ Has x "java/lang/String" "coder" "B" (.int cd) U ∧ XT.Arr .byte t V U ∧ Cod cd n f V ∧ ∀ j, j < n → ¬ f j < 0 ∧ ¬ 65535 < f j
theorem Txt.mv {x t : Addr} {V : Cell} {cd : Int32} {n : Nat} {f : Nat → Int32} {U U' : State} (h : Txt x t V cd n f U) (hal : U.vm.Alike U'.vm) (hh : U'.heap = U.heap) : Txt x t V cd n f U' := ⟨h.1.mv hal hh, h.2.1.mv hal hh, h.2.2.1.mv hal hh, h.2.2.2.1.mv hal hh, h.2.2.2.2⟩
namespace Cdr
def yN : MethodName := ⟨"java/lang/String", "coder", "()B"⟩
abbrev yB : ByteArray := jdk_42_method_152_code
theorem d0 : decode yB 0 = .ok (.getstatic 38, 3) := by decide +kernel
theorem d3 : decode yB 3 = .ok (.ifCond (.eq) 10, 3) := by decide +kernel
theorem d6 : decode yB 6 = .ok (.aload_n 0, 1) := by decide +kernel
theorem d7 : decode yB 7 = .ok (.getfield 15, 3) := by decide +kernel
theorem d10 : decode yB 10 = .ok (.goto 4, 3) := by decide +kernel
theorem d14 : decode yB 14 = .ok (.ireturn, 1) := by decide +kernel
def site : List Cond := [.fieldLink "java/lang/String" 38 "java/lang/String" "COMPACT_STRINGS" "Z", .fieldLink "java/lang/String" 15 "java/lang/String" "coder" "B"]
def tab : Cond := tabOf yN yB 1 (some .byte) site
def P (x : Addr) (cd z : Int32) (args : Array Value) (s : State) : Prop := args = #[.ref x] ∧ Has x "java/lang/String" "coder" "B" (.int cd) s ∧ (cd = 0 ∨ cd = 1) ∧ StaticIs s "java/lang/String" "COMPACT_STRINGS" "Z" (.int z) ∧ ¬ z = 0
def E (cd : Int32) (r : Option Value) (s u : State) : Prop := XT.PureE (some (.int cd)) r s u
theorem law (l : Launch) (x : Addr) (cd z : Int32) : Law l yN 1 0 0 0 yB 1 (some .byte) site (P x cd z) (E cd) [] 0 0 := by
  refine Law.of_walk (plainFor_of_name (by decide +kernel)) (by decide +kernel) (by decide +kernel) (by decide) (fun _ _ h => by rw [h.1]; rfl) (fun _ U U' hal hh h => ⟨h.1, h.2.1.mv hal hh, h.2.2.1, h.2.2.2.1.there hal hh, h.2.2.2.2⟩) (fun r U U' V V' h1 hal h2 h => XT.PureE.mv r U U' V V' h1 hal h2 h) ?_
  intro p e s m args below meth c s₁ X0 hexec hbytes hml hret hlk hnm hown hh0 W hP
  obtain ⟨rfl, hx, hc, s1, hz⟩ := hP
  have c1 : Steps p.tables e below (s₁.setTop (entryFrame m #[.ref x] 1)) (s₁.setTop (mkF m 0 #[.val (.ref x)] [])) := entry rfl
  obtain ⟨T2, X2, q2, st2⟩ := X0.sget hexec hown (wk W (.fieldLink "java/lang/String" 38 "java/lang/String" "COMPACT_STRINGS" "Z")) s1 (fun _ _ h => by rw [hh0]; exact h) (g := (mkF m 0 #[.val (.ref x)] [])) rfl (hb hbytes d0)
  have hh2 := q2.trans hh0
  have c3 : Steps p.tables e below (s₁.setTop (entryFrame m #[.ref x] 1)) (T2.setTop (mkF m 7 #[.val (.ref x)] [.ref x])) := (c1.trans (st2 _ (Steps.refl _))).trans (by
    refine XS.ifNo X2.here hexec rfl (hb hbytes d3) rfl (i0_eq_f hz) ?_
    refine XS.aloadN X2.here hexec rfl (hb hbytes d6) rfl rfl ?_
    exact Steps.refl _)
  obtain ⟨T4, X4, q4, st4⟩ := X2.hget hexec hown (wk W (.fieldLink "java/lang/String" 15 "java/lang/String" "coder" "B")) (hx.mv X2.warmed.alike hh2) (g := (mkF m 7 #[.val (.ref x)] [.ref x])) rfl (rest := []) rfl (hb hbytes d7)
  have c5 : Steps p.tables e below (s₁.setTop (entryFrame m #[.ref x] 1)) (T4.setTop (mkF m 14 #[.val (.ref x)] [.int cd])) := (c3.trans (st4 _ (Steps.refl _))).trans (by
    refine XS.goto X4.here hexec rfl (pc0 := 10) rfl (hb hbytes d10) (by decide) rfl ?_
    exact Steps.refl _)
  exact ⟨T4, some (.int cd), _, _, _, X4, rfl, rfl, rfl, (fun h => by cases h), ⟨rfl, q4.trans hh2⟩, fun fs hl => c5.trans (X4.ireturnOut hexec hret (by rcases hc with rfl | rfl <;> rfl) (Or.inr (Or.inr (Or.inl rfl))) (hb hbytes d14) hl)⟩
end Cdr
namespace Len
def yN : MethodName := ⟨"java/lang/String", "length", "()I"⟩
abbrev yB : ByteArray := jdk_42_method_54_code
theorem d0 : decode yB 0 = .ok (.aload_n 0, 1) := by decide +kernel
theorem d1 : decode yB 1 = .ok (.getfield 9, 3) := by decide +kernel
theorem d4 : decode yB 4 = .ok (.arraylength, 1) := by decide +kernel
theorem d5 : decode yB 5 = .ok (.aload_n 0, 1) := by decide +kernel
theorem d6 : decode yB 6 = .ok (.invokevirtual 335, 3) := by decide +kernel
theorem d9 : decode yB 9 = .ok (.ishr, 1) := by decide +kernel
theorem d10 : decode yB 10 = .ok (.ireturn, 1) := by decide +kernel
def site : List Cond := [.fieldLink "java/lang/String" 9 "java/lang/String" "value" "[B", Cdr.tab] ++ virtW "java/lang/String" 335 "java/lang/String" Cdr.yN Cdr.yN
def tab : Cond := tabOf yN yB 1 (some .int) site
def P (x t : Addr) (V : Cell) (cd : Int32) (n : Nat) (f : Nat → Int32) (z : Int32) (args : Array Value) (s : State) : Prop := args = #[.ref x] ∧ Txt x t V cd n f s ∧ StaticIs s "java/lang/String" "COMPACT_STRINGS" "Z" (.int z) ∧ ¬ z = 0
def E (n : Nat) (r : Option Value) (s u : State) : Prop := XT.PureE (some (.int (Int32.ofNat n))) r s u
/-- length() of a String of n chars, in either coding -/
theorem law (l : Launch) (x t : Addr) (V : Cell) (cd : Int32) (n : Nat) (f : Nat → Int32) (z : Int32) : Law l yN 1 0 1 13 yB 1 (some .int) site (P x t V cd n f z) (E n) [] 0 0 := by
  refine Law.of_walk (plainFor_of_name (by decide +kernel)) (by decide +kernel) (by decide +kernel) (by decide) (fun _ _ h => by rw [h.1]; rfl) (fun _ U U' hal hh h => ⟨h.1, h.2.1.mv hal hh, h.2.2.1.there hal hh, h.2.2.2⟩) (fun r U U' V V' h1 hal h2 h => XT.PureE.mv r U U' V V' h1 hal h2 h) ?_
  intro p e s m args below meth c s₁ X0 hexec hbytes hml hret hlk hnm hown hh0 W hP
  obtain ⟨rfl, hx, s1, hz⟩ := hP
  have v31 := hx.2.2.2.1.2.2.2
  have c1 : Steps p.tables e below (s₁.setTop (entryFrame m #[.ref x] 1)) (s₁.setTop (mkF m 1 #[.val (.ref x)] [.ref x])) := Steps.trans (entry rfl) (by
    show Steps p.tables e below (s₁.setTop (mkF m 0 #[.val (.ref x)] [])) _
    refine XS.aloadN X0.here hexec rfl (hb hbytes d0) rfl rfl ?_
    exact Steps.refl _)
  obtain ⟨T2, X2, q2, st2⟩ := X0.hget hexec hown (wk W (.fieldLink "java/lang/String" 9 "java/lang/String" "value" "[B")) (hx.mv X0.warmed.alike hh0).2.1 (g := (mkF m 1 #[.val (.ref x)] [.ref x])) rfl (rest := []) rfl (hb hbytes d1)
  have hh2 := q2.trans hh0
  have hx2 := hx.mv X2.warmed.alike hh2
  have c3 : Steps p.tables e below (s₁.setTop (entryFrame m #[.ref x] 1)) (T2.setTop (mkF m 6 #[.val (.ref x)] [.ref x, .int (Int32.ofNat V.slots.size)])) := (c1.trans (st2 _ (Steps.refl _))).trans (by
    refine X2.alen hexec hx2.2.2.2.1 rfl rfl (hb hbytes d4) ?_
    refine XS.aloadN X2.here hexec rfl (hb hbytes d5) rfl rfl ?_
    exact Steps.refl _)
  obtain ⟨v4, T4, X4, E4, g4⟩ := X2.callV hexec (Cdr.law l x cd z) hown (wks W (virtW "java/lang/String" 335 "java/lang/String" Cdr.yN Cdr.yN)) rfl (by decide) (wk W Cdr.tab) (W := 1) (Nat.le_of_ble_eq_true rfl) (Nat.le_of_ble_eq_true rfl) (Nat.le_refl _) (Nat.le_refl _) (hx2.1.fc X2.warmed.alike) hx2.1.is (g := (mkF m 6 #[.val (.ref x)] [.ref x, .int (Int32.ofNat V.slots.size)])) rfl (by rw [hml]; rfl) c3 (argsL := []) (rest := [.int (Int32.ofNat V.slots.size)]) rfl rfl (by show 2 * 0 + (1 + 0) ≤ _; decide) (hb hbytes d6) (⟨rfl, hx2.2.2.1, hx.2.2.2.2.1.cd, s1.there X2.warmed.alike hh2, hz⟩)
  obtain ⟨rfl, q4⟩ := E4
  have c5 : Steps p.tables e below (s₁.setTop (entryFrame m #[.ref x] 1)) (T4.setTop (mkF m 10 #[.val (.ref x)] [.int (Int32.ofNat V.slots.size >>> (cd &&& 31))])) := Steps.trans g4 (by
    refine ishr X4.here hexec rfl (hb hbytes d9) rfl ?_
    exact Steps.refl _)
  rw [hx.2.2.2.2.1.len v31] at c5
  exact ⟨T4, some (.int (Int32.ofNat n)), _, _, _, X4, rfl, rfl, rfl, (fun h => by cases h), ⟨rfl, q4.trans hh2⟩, fun fs hl => c5.trans (X4.ireturnOut hexec hret rfl (Or.inl rfl) (hb hbytes d10) hl)⟩
theorem pays {l : Launch} {R : Room} {p : Program} {e : Env} {below : List Frame} {s : State} {sargs : Array Value} {len W : Nat} (x t : Addr) (V : Cell) (cd : Int32) (n : Nat) (f : Nat → Int32) (z : Int32) (htab : tab.before sargs s = true) (hfr : 2 ≤ R.frames) (hlo : W + 25 ≤ R.locals) :
    Back l R p e below s sargs yN len W (fun A₁ a₁ => A₁.cells + 0 ≤ R.cells ∧ A₁.slots + 0 ≤ R.slots ∧ P x t V cd n f z a₁ A₁.U) (fun A₁ _ v₁ B₁ => E n v₁ A₁.U B₁.U ∧ B₁.locs = A₁.locs ++ [] ∧ B₁.cells = A₁.cells + 0 ∧ B₁.slots = A₁.slots + 0) :=
  (law l x t V cd n f z).pays htab hfr (by omega)
end Len
namespace IsL
def yN : MethodName := ⟨"java/lang/String", "isLatin1", "()Z"⟩
abbrev yB : ByteArray := jdk_42_method_154_code
theorem d0 : decode yB 0 = .ok (.getstatic 38, 3) := by decide +kernel
theorem d3 : decode yB 3 = .ok (.ifCond (.eq) 14, 3) := by decide +kernel
theorem d6 : decode yB 6 = .ok (.aload_n 0, 1) := by decide +kernel
theorem d7 : decode yB 7 = .ok (.getfield 15, 3) := by decide +kernel
theorem d10 : decode yB 10 = .ok (.ifCond (.ne) 7, 3) := by decide +kernel
theorem d13 : decode yB 13 = .ok (.iconst 1, 1) := by decide +kernel
theorem d14 : decode yB 14 = .ok (.goto 4, 3) := by decide +kernel
theorem d17 : decode yB 17 = .ok (.iconst 0, 1) := by decide +kernel
theorem d18 : decode yB 18 = .ok (.ireturn, 1) := by decide +kernel
def site : List Cond := [.fieldLink "java/lang/String" 38 "java/lang/String" "COMPACT_STRINGS" "Z", .fieldLink "java/lang/String" 15 "java/lang/String" "coder" "B"]
def tab : Cond := tabOf yN yB 1 (some .boolean) site
def P (x : Addr) (cd z : Int32) (args : Array Value) (s : State) : Prop := args = #[.ref x] ∧ Has x "java/lang/String" "coder" "B" (.int cd) s ∧ (cd = 0 ∨ cd = 1) ∧ StaticIs s "java/lang/String" "COMPACT_STRINGS" "Z" (.int z) ∧ ¬ z = 0
def E (cd : Int32) (r : Option Value) (s u : State) : Prop := XT.PureE (some (.int (1 - cd))) r s u
theorem law (l : Launch) (x : Addr) (cd z : Int32) : Law l yN 1 0 0 0 yB 1 (some .boolean) site (P x cd z) (E cd) [] 0 0 := by
  refine Law.of_walk (plainFor_of_name (by decide +kernel)) (by decide +kernel) (by decide +kernel) (by decide) (fun _ _ h => by rw [h.1]; rfl) (fun _ U U' hal hh h => ⟨h.1, h.2.1.mv hal hh, h.2.2.1, h.2.2.2.1.there hal hh, h.2.2.2.2⟩) (fun r U U' V V' h1 hal h2 h => XT.PureE.mv r U U' V V' h1 hal h2 h) ?_
  intro p e s m args below meth c s₁ X0 hexec hbytes hml hret hlk hnm hown hh0 W hP
  obtain ⟨rfl, hx, hc, s1, hz⟩ := hP
  have c1 : Steps p.tables e below (s₁.setTop (entryFrame m #[.ref x] 1)) (s₁.setTop (mkF m 0 #[.val (.ref x)] [])) := entry rfl
  obtain ⟨T2, X2, q2, st2⟩ := X0.sget hexec hown (wk W (.fieldLink "java/lang/String" 38 "java/lang/String" "COMPACT_STRINGS" "Z")) s1 (fun _ _ h => by rw [hh0]; exact h) (g := (mkF m 0 #[.val (.ref x)] [])) rfl (hb hbytes d0)
  have hh2 := q2.trans hh0
  have c3 : Steps p.tables e below (s₁.setTop (entryFrame m #[.ref x] 1)) (T2.setTop (mkF m 7 #[.val (.ref x)] [.ref x])) := (c1.trans (st2 _ (Steps.refl _))).trans (by
    refine XS.ifNo X2.here hexec rfl (hb hbytes d3) rfl (i0_eq_f hz) ?_
    refine XS.aloadN X2.here hexec rfl (hb hbytes d6) rfl rfl ?_
    exact Steps.refl _)
  obtain ⟨T4, X4, q4, st4⟩ := X2.hget hexec hown (wk W (.fieldLink "java/lang/String" 15 "java/lang/String" "coder" "B")) (hx.mv X2.warmed.alike hh2) (g := (mkF m 7 #[.val (.ref x)] [.ref x])) rfl (rest := []) rfl (hb hbytes d7)
  have c5 : Steps p.tables e below (s₁.setTop (entryFrame m #[.ref x] 1)) (T4.setTop (mkF m 10 #[.val (.ref x)] [.int cd])) := c3.trans (st4 _ (Steps.refl _))
  have c6 : Steps p.tables e below (s₁.setTop (entryFrame m #[.ref x] 1)) (T4.setTop (mkF m 18 #[.val (.ref x)] [.int (1 - cd)])) := by
    rcases hc with rfl | rfl
    · exact c5.trans (by
        refine XS.ifNo X4.here hexec rfl (hb hbytes d10) rfl (i0_ne_f rfl) ?_
        refine iconstV X4.here hexec rfl 1 (hb hbytes d13) (by decide) ?_
        refine XS.goto X4.here hexec rfl (pc0 := 14) rfl (hb hbytes d14) (by decide) rfl ?_
        exact Steps.refl _)
    · exact c5.trans (by
        refine XS.ifYes X4.here hexec rfl (pc0 := 10) rfl (hb hbytes d10) rfl (i0_ne_t (by decide)) (by decide) rfl ?_
        refine iconstV X4.here hexec rfl 0 (hb hbytes d17) (by decide) ?_
        exact Steps.refl _)
  exact ⟨T4, some (.int (1 - cd)), _, _, _, X4, rfl, rfl, rfl, (fun h => by cases h), ⟨rfl, q4.trans hh2⟩, fun fs hl => c6.trans (X4.ireturnOut hexec hret (by rcases hc with rfl | rfl <;> rfl) (Or.inr (Or.inl rfl)) (hb hbytes d18) hl)⟩
end IsL
namespace LChA
def yN : MethodName := ⟨"java/lang/StringLatin1", "charAt", "([BI)C"⟩
abbrev yB : ByteArray := jdk_43_method_2_code
theorem d0 : decode yB 0 = .ok (.iload_n 1, 1) := by decide +kernel
theorem d1 : decode yB 1 = .ok (.aload_n 0, 1) := by decide +kernel
theorem d2 : decode yB 2 = .ok (.arraylength, 1) := by decide +kernel
theorem d3 : decode yB 3 = .ok (.invokestatic 9, 3) := by decide +kernel
theorem d6 : decode yB 6 = .ok (.aload_n 0, 1) := by decide +kernel
theorem d7 : decode yB 7 = .ok (.iload_n 1, 1) := by decide +kernel
theorem d8 : decode yB 8 = .ok (.baload, 1) := by decide +kernel
theorem d9 : decode yB 9 = .ok (.sipush 255, 3) := by decide +kernel
theorem d12 : decode yB 12 = .ok (.iand, 1) := by decide +kernel
theorem d13 : decode yB 13 = .ok (.i2c, 1) := by decide +kernel
theorem d14 : decode yB 14 = .ok (.ireturn, 1) := by decide +kernel
def site : List Cond := [JO.Str_checkIndex.tab] ++ staticW "java/lang/StringLatin1" 9 JO.Str_checkIndex.yN
def tab : Cond := tabOf yN yB 2 (some .char) site
def P (t : Addr) (V : Cell) (i : Nat) (u : Int32) (fm : Value) (args : Array Value) (s : State) : Prop := args = #[.ref t, .int (Int32.ofNat i)] ∧ XT.Arr .byte t V s ∧ V.slots[i]? = some (.int u) ∧ (StaticIs s "jdk/internal/util/Preconditions" "SIOOBE_FORMATTER" "Ljava/util/function/BiFunction;" fm ∧ fm.isRef = true)
def E (u : Int32) (r : Option Value) (s w : State) : Prop := XT.PureE (some (.int (chr8 u))) r s w
theorem law (l : Launch) (t : Addr) (V : Cell) (i : Nat) (u : Int32) (fm : Value) : Law l yN 2 2 2 27 yB 2 (some .char) site (P t V i u fm) (E u) [] 0 0 := by
  refine Law.of_walk (plainFor_of_name (by decide +kernel)) (by decide +kernel) (by decide +kernel) (by decide) (fun _ _ h => by rw [h.1]; rfl) (fun _ U U' hal hh h => ⟨h.1, h.2.1.mv hal hh, h.2.2.1, h.2.2.2.1.there hal hh, h.2.2.2.2⟩) (fun r U U' V V' h1 hal h2 h => XT.PureE.mv r U U' V V' h1 hal h2 h) ?_
  intro p e s m args below meth c s₁ X0 hexec hbytes hml hret hlk hnm hown hh0 W hP
  obtain ⟨rfl, hV, hu, s1, rf⟩ := hP
  have v31 := hV.2.2.2
  have hi : i < V.slots.size := (Array.getElem?_eq_some_iff.mp hu).1
  have c1 : Steps p.tables e below (s₁.setTop (entryFrame m #[.ref t, .int (Int32.ofNat i)] 2)) (s₁.setTop (mkF m 0 #[.val (.ref t), .val (.int (Int32.ofNat i))] [])) := entry rfl
  have c2 : Steps p.tables e below (s₁.setTop (entryFrame m #[.ref t, .int (Int32.ofNat i)] 2)) (s₁.setTop (mkF m 3 #[.val (.ref t), .val (.int (Int32.ofNat i))] [.int (Int32.ofNat V.slots.size), .int (Int32.ofNat i)])) := c1.trans (by
    refine XS.iloadN X0.here hexec rfl (hb hbytes d0) rfl ?_
    refine XS.aloadN X0.here hexec rfl (hb hbytes d1) rfl rfl ?_
    refine X0.alen hexec (hV.mv X0.warmed.alike hh0) rfl rfl (hb hbytes d2) ?_
    exact Steps.refl _)
  obtain ⟨v3, T3, X3, E3, g3⟩ := X0.callS hexec (JO.Str_checkIndex.law l (Int32.ofNat i) (Int32.ofNat V.slots.size) fm) hown (wks W (staticW "java/lang/StringLatin1" 9 JO.Str_checkIndex.yN)) (wk W JO.Str_checkIndex.tab) (W := 0) (Nat.le_of_ble_eq_true rfl) (Nat.le_of_ble_eq_true rfl) (Nat.le_refl _) (Nat.le_refl _) (g := (mkF m 3 #[.val (.ref t), .val (.int (Int32.ofNat i))] [.int (Int32.ofNat V.slots.size), .int (Int32.ofNat i)])) rfl (by rw [hml]; rfl) c2 (argsL := [.int (Int32.ofNat i), .int (Int32.ofNat V.slots.size)]) (rest := []) rfl rfl (by show 2 * 0 + 0 ≤ _; decide) (hb hbytes d3) (⟨rfl, rf, s1.there X0.warmed.alike hh0, Int32.ofNat_not_neg (by omega), lt32 v31 hi⟩)
  obtain ⟨rfl, q3⟩ := E3
  have hh3 := q3.trans hh0
  have c4 : Steps p.tables e below (s₁.setTop (entryFrame m #[.ref t, .int (Int32.ofNat i)] 2)) (T3.setTop (mkF m 14 #[.val (.ref t), .val (.int (Int32.ofNat i))] [.int (chr8 u)])) := Steps.trans g3 (by
    refine XS.aloadN X3.here hexec rfl (hb hbytes d6) rfl rfl ?_
    refine XS.iloadN X3.here hexec rfl (hb hbytes d7) rfl ?_
    refine X3.aget hexec (hV.mv X3.warmed.alike hh3) rfl hu rfl rfl (hb hbytes d8) ?_
    refine sipushV X3.here hexec rfl 255 (hb hbytes d9) (by decide) ?_
    refine XS.iand X3.here hexec rfl (hb hbytes d12) rfl ?_
    refine i2c X3.here hexec rfl (hb hbytes d13) rfl ?_
    exact Steps.refl _)
  exact ⟨T3, some (.int (chr8 u)), _, _, _, X3, rfl, rfl, rfl, (fun h => by cases h), ⟨rfl, hh3⟩, fun fs hl => c4.trans (X3.ireturnOut hexec hret (narrow_c _) (Or.inr (Or.inr (Or.inr (Or.inl rfl)))) (hb hbytes d14) hl)⟩
end LChA
end StrChars
namespace StrChars.Road
open Jvm Sem ClassFile Op Lib Jvm.Stand Jvm.Free Jvm.Free.XT
open Jvm.Lib.Cold (StaticIs)
theorem consq {a : Array Value} {s : State} {c : Jvm.Cond} {L : List Jvm.Cond} (h0 : c.before a s = true) (h : ∀ w ∈ L, w.before a s = true) : ∀ w ∈ c :: L, w.before a s = true := fun w hw => (List.mem_cons.mp hw).elim (fun e => e ▸ h0) (h w)
/-- the words of String.length(), either coding -/
abbrev wordsLen : List Jvm.Cond := [.code Len.yN Len.yB 1 (some .int), .initialized ST, .fieldLink ST 9 ST "value" "[B", .fieldLink ST 38 ST "COMPACT_STRINGS" "Z", .fieldLink ST 15 ST "coder" "B", .code Cdr.yN Cdr.yB 1 (some .byte), .methodLink ST 335 Cdr.yN, .declares Cdr.yN, .selects ST Cdr.yN Cdr.yN, .instanceMethod Cdr.yN]
theorem tabLen_of {a : Array Value} {s : State} (h : ∀ w ∈ wordsLen, w.before a s = true) : Len.tab.before a s = true := by
  have hc : Cdr.tab.before a s = true := unparts (wk h (.code Cdr.yN Cdr.yB 1 (some .byte))) (wks h (.initialized Cdr.yN.cls :: Cdr.site))
  have q := consq hc h
  exact unparts (wk q (.code Len.yN Len.yB 1 (some .int))) (wks q (.initialized Len.yN.cls :: Len.site))
theorem movedLen {Z s : State} {a0 args : Array Value} (hZ : Z.Warmed39 s.vm) (hw : ∀ d ∈ wordsLen, d.before a0 Z = true) : ∀ d ∈ wordsLen, d.before args s = true := fun d hd => by
  have q := hw d hd
  have t : ∀ d ∈ wordsLen, d = .arrayClass .byte ∨ (d.onTables && d.keepsFace) = true := by decide +kernel
  rcases t d hd with rfl | t
  · exact RoadKit.mvA hZ q
  · exact RoadKit.mv hZ q t
/-- the bytes of the chars cs, low before high -/
def wideBytes : List Int32 → List Value
  | [] => []
  | c :: cs => .int (lo8 c) :: .int (hi8 c) :: wideBytes cs
theorem wide_lo (d : Value) : ∀ (cs : List Int32) (j : Nat), j < cs.length → (wideBytes cs).getD (2 * j) d = .int (lo8 (cs.getD j 0))
  | [], j, h => absurd h (Nat.not_lt_zero j)
  | c :: cs, 0, _ => rfl
  | c :: cs, j + 1, h => by
    have q := wide_lo d cs j (by simpa using h)
    rw [show 2 * (j + 1) = 2 * j + 1 + 1 from by omega]
    simpa [wideBytes] using q
theorem wide_hi (d : Value) : ∀ (cs : List Int32) (j : Nat), j < cs.length → (wideBytes cs).getD (2 * j + 1) d = .int (hi8 (cs.getD j 0))
  | [], j, h => absurd h (Nat.not_lt_zero j)
  | c :: cs, 0, _ => rfl
  | c :: cs, j + 1, h => by
    have q := wide_hi d cs j (by simpa using h)
    rw [show 2 * (j + 1) + 1 = 2 * j + 1 + 1 + 1 from by omega]
    simpa [wideBytes] using q
theorem low_at (d : Value) (cs : List Int32) (j : Nat) (h : j < cs.length) : (cs.map fun c => Value.int (lo8 c)).getD j d = .int (lo8 (cs.getD j 0)) := by
  simp [List.getD_eq_getElem?_getD, h]
/-- an array of N2 bytes vs codes the chars cs by the coder cd -/
def CodA (cs : List Int32) (cd N2 : Int32) (vs : List Value) : Prop := (cd = 0 ∧ N2 = Int32.ofNat cs.length ∧ vs = (cs.map fun c => Value.int (lo8 c)) ∧ ∀ c ∈ cs, ¬ 255 < c) ∨ (cd = 1 ∧ N2 = Int32.ofNat (2 * cs.length) ∧ vs = wideBytes cs ∧ ∃ c ∈ cs, 255 < c)
theorem CodA.cod {cs : List Int32} {cd N2 : Int32} {vs : List Value} {V : Cell} (h : CodA cs cd N2 vs) (hn : 2 * cs.length < 2 ^ 31) (hs : V.slots.size = N2.toNatClampNeg) (hv : RoadKit.Has V vs (.int 0)) : Cod cd cs.length (fun j => cs.getD j 0) V := by
  rcases h with ⟨rfl, rfl, rfl, h⟩ | ⟨rfl, rfl, rfl, c, hc, hw⟩
  · rw [n32 (by omega)] at hs
    exact Or.inl ⟨rfl, hs, fun j hj => ⟨by rw [hv j (by omega), low_at _ _ _ hj], by
      have e : cs.getD j 0 = cs[j] := by simp [List.getD_eq_getElem?_getD, hj]
      show ¬ 255 < cs.getD j 0
      rw [e]; exact h _ (List.getElem_mem _)⟩⟩
  · rw [n32 (by omega)] at hs
    obtain ⟨j, hj, rfl⟩ := List.getElem_of_mem hc
    exact Or.inr ⟨rfl, hs, fun j hj => ⟨by rw [hv _ (by omega), wide_lo _ _ _ hj], by rw [hv _ (by omega), wide_hi _ _ _ hj]⟩, j, hj, by
      have e : cs.getD j 0 = cs[j] := by simp [List.getD_eq_getElem?_getD, hj]
      show 255 < cs.getD j 0
      rw [e]; exact hw⟩
/-- an object of exactly java/lang/String, its two fields found: as the laws ask it -/
theorem strObj {Z U : State} {a0 : Array Value} {kI : Nat} (wi : (Jvm.Cond.instantiable ST kI).before a0 Z = true) (al : Z.vm.Alike U.vm) {x : Addr} {v0 c0 : Value} (E : RoadKit.Exa Z U.heap x ST) (V : RoadKit.Fld Z U.heap x ST "value" "[B" v0) (C : RoadKit.Fld Z U.heap x ST "coder" "B" c0) :
    ∃ (D : Cell) (fV fC : Field), Blank ST x D U ∧ Found ST "value" "[B" fV U ∧ Found ST "coder" "B" fC U ∧ D.slots[fV.slot]? = some v0 ∧ D.slots[fC.slot]? = some c0 ∧ RoadKit.slotOf Z ST "value" "[B" = fV.slot ∧ RoadKit.slotOf Z ST "coder" "B" = fC.slot := by
  obtain ⟨D, cfV, kV, iV, fV, hD, gV, stV, knV, obV, asV, slV⟩ := V
  obtain ⟨D', cfC, kC, iC, fC, hD', gC, stC, -, -, asC, slC⟩ := C
  cases hD.symm.trans hD'
  obtain ⟨D2, kD, e1, e2, e3, e4, e5⟩ := E
  cases hD.symm.trans e1
  obtain ⟨c2, k2, i1, i2, i3, -⟩ := Cond.instantiable_spec wi
  cases e2.symm.trans i1
  cases e3.symm.trans i2
  obtain ⟨kU, u1, u2⟩ := al.2.2 _ _ e3
  exact ⟨D, fV, fC, ⟨hD, ⟨knV, fun q hq => by rw [hq] at obV; cases obV⟩, by rw [al.findClass]; exact e2, kU, u1, by rw [u2]; exact i3, by rw [u2]; exact e5 i3⟩, ⟨SBG.found_only al ⟨cfV, kV, iV, gV⟩, stV⟩, ⟨SBG.found_only al ⟨cfC, kC, iC, gC⟩, stC⟩, slV, slC, by simp [RoadKit.slotOf, gV], by simp [RoadKit.slotOf, gC]⟩
theorem sta_is {Z U : State} (al : Z.vm.Alike U.vm) {C n d : String} {v : Value} (S : RoadKit.Sta Z U.heap C n d v) : StaticIs U C n d v := by
  obtain ⟨cfS, iS, kS, fS, st, cS, t1, t2, t3, t4, t5, t6, t7⟩ := S
  exact StaticIs.there (s := { Z with heap := U.heap }) ⟨cfS, iS, kS, fS, st, cS, t1, t2, t3, t4, t5, (fun q => by rw [q] at t6; cases t6), t7⟩ al rfl
/-- **length() OF SUCH A STRING** -/
theorem lenW {p : Program} {l : Launch} {e : Env} {R : Room} {s : State} {args : Array Value} {below : List Frame} {len W : Nat} {Z : State} {a0 : Array Value} {h : Heap} (hZ : Z.Warmed39 s.vm) (hw : ∀ d ∈ wordsLen, d.before a0 Z = true) {kI : Nat} (wi : (Jvm.Cond.instantiable ST kI).before a0 Z = true)
    {x t : Addr} {kb : ClassId} {cs : List Int32} {cd N2 z : Int32} {vs : List Value} (E : RoadKit.Exa Z h x ST) (V : RoadKit.Fld Z h x ST "value" "[B" (.ref t)) (C : RoadKit.Fld Z h x ST "coder" "B" (.int cd)) (K : RoadKit.Arv Z h t kb .byte N2 vs (.int 0)) (hc : CodA cs cd N2 vs) (hb : ∀ c ∈ cs, ¬ c < 0 ∧ ¬ (65535 : Int32) < c)
    (S : RoadKit.Sta Z h ST "COMPACT_STRINGS" "Z" (.int z)) (hz : ¬ z = 0) (l2 : cs.length ≤ 4000) (hfr : 2 ≤ R.frames) (hlo : W + 25 ≤ R.locals) :
    Back l R p e below s args (⟨"java/lang/String", "length", "()I"⟩ : MethodName) len W (fun P a => a = #[.ref x] ∧ P.U.heap = h ∧ P.cells + 0 ≤ R.cells ∧ P.slots + 0 ≤ R.slots)
      (fun P _ v B => ∃ L, (v = some (.int (Int32.ofNat cs.length)) ∧ L = [] ∧ B.U.heap = h) ∧ B.locs = P.locs ++ L ∧ B.cells = P.cells + 0 ∧ B.slots = P.slots + 0) := by
  obtain ⟨A, K1, K2, K3, K4, K5, K6⟩ := K
  have hcod := hc.cod (by omega) K3 K5
  intro m meth c P g ig mk a X hg hsize hdg hW hn hp'
  obtain ⟨rfl, rfl, r1, r2⟩ := hp'
  have al : Z.vm.Alike P.U.vm := hZ.alike.trans X.warmed.alike
  obtain ⟨D, fV, fC, hB, F1, F2, g1, g2, -, -⟩ := strObj wi al E V C
  have hx : Txt x t A cd cs.length (fun j => cs.getD j 0) P.U := ⟨⟨_, hB.2.2.1, D, hB.1, rfl, by cases q : D.vm <;> first | rfl | exact absurd q (hB.2.1.2 _)⟩, Has.of hB F1 g1, Has.of hB F2 g2, ⟨K1.1, State.isArrayOf_alike al K1.2.1, K1.2.2, by rcases hcod with ⟨-, q, -⟩ | ⟨-, q, -⟩ <;> omega⟩, hcod, fun j hj => by
    have e : cs.getD j 0 = cs[j] := by simp [List.getD_eq_getElem?_getD, hj]
    show ¬ cs.getD j 0 < 0 ∧ ¬ 65535 < cs.getD j 0
    rw [e]; exact hb _ (List.getElem_mem _)⟩
  obtain ⟨v, B, X', ⟨⟨hv, hh⟩, hl, hk, hs⟩, st⟩ := Len.pays x t A cd cs.length (fun j => cs.getD j 0) z (tabLen_of (movedLen hZ hw)) hfr hlo m meth c P g ig mk _ X hg hsize hdg hW hn ⟨r1, r2, rfl, hx, sta_is al S, hz⟩
  exact ⟨v, B, X', ⟨[], ⟨hv, rfl, hh⟩, hl, hk, hs⟩, st⟩
end StrChars.Road
namespace StrChars.Road
open Jvm Sem ClassFile Op Lib Jvm.Stand Jvm.Free Jvm.Free.XT
open Jvm.Lib.Cold (StaticIs)
/-- the road's facts of a String, as the laws ask it -/
theorem txt_of {Z U : State} {a0 : Array Value} {kI : Nat} (wi : (Jvm.Cond.instantiable ST kI).before a0 Z = true) (al : Z.vm.Alike U.vm) {x t : Addr} {kb : ClassId} {cs : List Int32} {cd N2 : Int32} {vs : List Value} (E : RoadKit.Exa Z U.heap x ST) (V : RoadKit.Fld Z U.heap x ST "value" "[B" (.ref t)) (C : RoadKit.Fld Z U.heap x ST "coder" "B" (.int cd)) (K : RoadKit.Arv Z U.heap t kb .byte N2 vs (.int 0)) (hc : CodA cs cd N2 vs) (hb : ∀ c ∈ cs, ¬ c < 0 ∧ ¬ (65535 : Int32) < c) (l2 : cs.length ≤ 4000) :
    ∃ A, Txt x t A cd cs.length (fun j => cs.getD j 0) U := by
  obtain ⟨A, K1, K2, K3, K4, K5, K6⟩ := K
  have hcod := hc.cod (by omega) K3 K5
  obtain ⟨D, fV, fC, hB, F1, F2, g1, g2, -, -⟩ := strObj wi al E V C
  exact ⟨A, ⟨_, hB.2.2.1, D, hB.1, rfl, by cases q : D.vm <;> first | rfl | exact absurd q (hB.2.1.2 _)⟩, Has.of hB F1 g1, Has.of hB F2 g2, ⟨K1.1, State.isArrayOf_alike al K1.2.1, K1.2.2, by rcases hcod with ⟨-, q, -⟩ | ⟨-, q, -⟩ <;> omega⟩, hcod, fun j hj => by
    have e : cs.getD j 0 = cs[j] := by simp [List.getD_eq_getElem?_getD, hj]
    show ¬ cs.getD j 0 < 0 ∧ ¬ 65535 < cs.getD j 0
    rw [e]; exact hb _ (List.getElem_mem _)⟩
end StrChars.Road
namespace StrChars
open Jvm Sem ClassFile Op Lib Jvm.Stand Jvm.Free.XT Jvm.Free.ALB Jvm.Free.JM Jvm.Free
open Jvm.Lib.Cold (StaticIs)
namespace ChN
def yN : MethodName := ⟨"java/lang/String", "charAt", "(I)C"⟩
abbrev yB : ByteArray := jdk_42_method_56_code
theorem d0 : decode yB 0 = .ok (.aload_n 0, 1) := by decide +kernel
theorem d1 : decode yB 1 = .ok (.invokevirtual 492, 3) := by decide +kernel
theorem d4 : decode yB 4 = .ok (.ifCond (.eq) 12, 3) := by decide +kernel
theorem d7 : decode yB 7 = .ok (.aload_n 0, 1) := by decide +kernel
theorem d8 : decode yB 8 = .ok (.getfield 9, 3) := by decide +kernel
theorem d11 : decode yB 11 = .ok (.iload_n 1, 1) := by decide +kernel
theorem d12 : decode yB 12 = .ok (.invokestatic 495, 3) := by decide +kernel
theorem d15 : decode yB 15 = .ok (.ireturn, 1) := by decide +kernel
def site : List Cond := [.fieldLink "java/lang/String" 9 "java/lang/String" "value" "[B", IsL.tab, LChA.tab] ++ virtW "java/lang/String" 492 "java/lang/String" IsL.yN IsL.yN ++ staticW "java/lang/String" 495 LChA.yN
def tab : Cond := tabOf yN yB 2 (some .char) site
def P (x t : Addr) (V : Cell) (n : Nat) (f : Nat → Int32) (z : Int32) (fm : Value) (i : Nat) (args : Array Value) (s : State) : Prop := args = #[.ref x, .int (Int32.ofNat i)] ∧ Txt x t V 0 n f s ∧ i < n ∧ StaticIs s "java/lang/String" "COMPACT_STRINGS" "Z" (.int z) ∧ ¬ z = 0 ∧ StaticIs s "jdk/internal/util/Preconditions" "SIOOBE_FORMATTER" "Ljava/util/function/BiFunction;" fm ∧ fm.isRef = true
def E (f : Nat → Int32) (i : Nat) (r : Option Value) (s u : State) : Prop := XT.PureE (some (.int (f i))) r s u
/-- charAt(i) of a Latin-1 String of n chars, i < n: f i -/
theorem law (l : Launch) (x t : Addr) (V : Cell) (n : Nat) (f : Nat → Int32) (z : Int32) (fm : Value) (i : Nat) : Law l yN 2 1 3 40 yB 2 (some .char) site (P x t V n f z fm i) (E f i) [] 0 0 := by
  refine Law.of_walk (plainFor_of_name (by decide +kernel)) (by decide +kernel) (by decide +kernel) (by decide) (fun _ _ h => by rw [h.1]; rfl) (fun _ U U' hal hh h => ⟨h.1, h.2.1.mv hal hh, h.2.2.1, h.2.2.2.1.there hal hh, h.2.2.2.2.1, h.2.2.2.2.2.1.there hal hh, h.2.2.2.2.2.2⟩) (fun r U U' V V' h1 hal h2 h => XT.PureE.mv r U U' V V' h1 hal h2 h) ?_
  intro p e s m args below meth c s₁ X0 hexec hbytes hml hret hlk hnm hown hh0 W hP
  obtain ⟨rfl, hx, hi, s1, hz, s3, rf⟩ := hP
  have v31 := hx.2.2.2.1.2.2.2
  have hr := hx.2.2.2.2.2 i hi
  have hx0 := hx.mv X0.warmed.alike hh0
  have c1 : Steps p.tables e below (s₁.setTop (entryFrame m #[.ref x, .int (Int32.ofNat i)] 2)) (s₁.setTop (mkF m 1 #[.val (.ref x), .val (.int (Int32.ofNat i))] [.ref x])) := Steps.trans (entry rfl) (by
    show Steps p.tables e below (s₁.setTop (mkF m 0 #[.val (.ref x), .val (.int (Int32.ofNat i))] [])) _
    refine XS.aloadN X0.here hexec rfl (hb hbytes d0) rfl rfl ?_
    exact Steps.refl _)
  obtain ⟨v2, T2, X2, E2, g2⟩ := X0.callV hexec (IsL.law l x 0 z) hown (wks W (virtW "java/lang/String" 492 "java/lang/String" IsL.yN IsL.yN)) rfl (by decide) (wk W IsL.tab) (W := 0) (Nat.le_of_ble_eq_true rfl) (Nat.le_of_ble_eq_true rfl) (Nat.le_refl _) (Nat.le_refl _) (hx0.1.fc X0.warmed.alike) hx0.1.is (g := (mkF m 1 #[.val (.ref x), .val (.int (Int32.ofNat i))] [.ref x])) rfl (by rw [hml]; rfl) c1 (argsL := []) (rest := []) rfl rfl (by show 2 * 0 + 0 ≤ _; decide) (hb hbytes d1) (⟨rfl, hx0.2.2.1, hx.2.2.2.2.1.cd, s1.there X0.warmed.alike hh0, hz⟩)
  obtain ⟨rfl, q2⟩ := E2
  have hh2 := q2.trans hh0
  have hx2 := hx.mv X2.warmed.alike hh2
  obtain ⟨-, k1, k2⟩ | ⟨k0, -⟩ := hx.2.2.2.2.1
  · have c3 : Steps p.tables e below (s₁.setTop (entryFrame m #[.ref x, .int (Int32.ofNat i)] 2)) (T2.setTop (mkF m 8 #[.val (.ref x), .val (.int (Int32.ofNat i))] [.ref x])) := Steps.trans g2 (by
      refine XS.ifNo X2.here hexec rfl (hb hbytes d4) rfl (i0_eq_f (by decide)) ?_
      refine XS.aloadN X2.here hexec rfl (hb hbytes d7) rfl rfl ?_
      exact Steps.refl _)
    obtain ⟨T4, X4, q4, st4⟩ := X2.hget hexec hown (wk W (.fieldLink "java/lang/String" 9 "java/lang/String" "value" "[B")) hx2.2.1 (g := (mkF m 8 #[.val (.ref x), .val (.int (Int32.ofNat i))] [.ref x])) rfl (rest := []) rfl (hb hbytes d8)
    have hh4 := q4.trans hh2
    have c5 : Steps p.tables e below (s₁.setTop (entryFrame m #[.ref x, .int (Int32.ofNat i)] 2)) (T4.setTop (mkF m 12 #[.val (.ref x), .val (.int (Int32.ofNat i))] [.int (Int32.ofNat i), .ref t])) := (c3.trans (st4 _ (Steps.refl _))).trans (by
      refine XS.iloadN X4.here hexec rfl (hb hbytes d11) rfl ?_
      exact Steps.refl _)
    obtain ⟨v6, T6, X6, E6, g6⟩ := X4.callS hexec (LChA.law l t V i (lo8 (f i)) fm) hown (wks W (staticW "java/lang/String" 495 LChA.yN)) (wk W LChA.tab) (W := 0) (Nat.le_of_ble_eq_true rfl) (Nat.le_of_ble_eq_true rfl) (Nat.le_refl _) (Nat.le_refl _) (g := (mkF m 12 #[.val (.ref x), .val (.int (Int32.ofNat i))] [.int (Int32.ofNat i), .ref t])) rfl (by rw [hml]; rfl) c5 (argsL := [.ref t, .int (Int32.ofNat i)]) (rest := []) rfl rfl (by show 2 * 0 + 0 ≤ _; decide) (hb hbytes d12) (⟨rfl, hx.2.2.2.1.mv X4.warmed.alike hh4, (k2 i hi).1, s3.there X4.warmed.alike hh4, rf⟩)
    obtain ⟨rfl, q6⟩ := E6
    rw [chr8_lo8 hr.1 (k2 i hi).2] at g6
    exact ⟨T6, some (.int (f i)), _, _, _, X6, rfl, rfl, rfl, (fun h => by cases h), ⟨rfl, q6.trans hh4⟩, fun fs hl => Steps.trans g6 (X6.ireturnOut hexec hret (narrow_ch hr.1 hr.2) (Or.inr (Or.inr (Or.inr (Or.inl rfl)))) (hb hbytes d15) hl)⟩
  · exact absurd k0 (by decide)
theorem pays {l : Launch} {R : Room} {p : Program} {e : Env} {below : List Frame} {s : State} {sargs : Array Value} {len W : Nat} (x t : Addr) (V : Cell) (n : Nat) (f : Nat → Int32) (z : Int32) (fm : Value) (i : Nat) (htab : tab.before sargs s = true) (hfr : 4 ≤ R.frames) (hlo : W + 53 ≤ R.locals) :
    Back l R p e below s sargs yN len W (fun A₁ a₁ => A₁.cells + 0 ≤ R.cells ∧ A₁.slots + 0 ≤ R.slots ∧ P x t V n f z fm i a₁ A₁.U) (fun A₁ _ v₁ B₁ => E f i v₁ A₁.U B₁.U ∧ B₁.locs = A₁.locs ++ [] ∧ B₁.cells = A₁.cells + 0 ∧ B₁.slots = A₁.slots + 0) :=
  (law l x t V n f z fm i).pays htab hfr (by omega)
end ChN
end StrChars
namespace StrChars.Road
open Jvm Sem ClassFile Op Lib Jvm.Stand Jvm.Free Jvm.Free.XT
open Jvm.Lib.Cold (StaticIs)
/-- the words of String.charAt(int), the Latin-1 road alone -/
abbrev wordsChN : List Jvm.Cond := [.code ChN.yN ChN.yB 2 (some .char), .initialized ST, .fieldLink ST 9 ST "value" "[B", .fieldLink ST 38 ST "COMPACT_STRINGS" "Z", .fieldLink ST 15 ST "coder" "B", .code IsL.yN IsL.yB 1 (some .boolean), .methodLink ST 492 IsL.yN, .declares IsL.yN, .selects ST IsL.yN IsL.yN, .instanceMethod IsL.yN,
  .methodLink ST 495 LChA.yN, .static LChA.yN, .code LChA.yN LChA.yB 2 (some .char), .initialized "java/lang/StringLatin1", .methodLink "java/lang/StringLatin1" 9 JO.Str_checkIndex.yN, .static JO.Str_checkIndex.yN, .code JO.Str_checkIndex.yN JO.Str_checkIndex.yB 2 none,
  .fieldLink ST 1053 "jdk/internal/util/Preconditions" "SIOOBE_FORMATTER" "Ljava/util/function/BiFunction;", .methodLink ST 1059 JC.PreCheck.yN, .static JC.PreCheck.yN, .code JC.PreCheck.yN JC.PreCheck.yB 3 (some .int), .initialized "jdk/internal/util/Preconditions"]
theorem tabChN_of {a : Array Value} {s : State} (h : ∀ w ∈ wordsChN, w.before a s = true) : ChN.tab.before a s = true := by
  have hp : JC.PreCheck.tab.before a s = true := unparts (wk h (.code JC.PreCheck.yN JC.PreCheck.yB 3 (some .int))) (wks h (.initialized JC.PreCheck.yN.cls :: JC.PreCheck.site))
  have qk := consq hp h
  have hk : JO.Str_checkIndex.tab.before a s = true := unparts (wk qk (.code JO.Str_checkIndex.yN JO.Str_checkIndex.yB 2 none)) (wks qk (.initialized JO.Str_checkIndex.yN.cls :: JO.Str_checkIndex.site))
  have ql := consq hk h
  have hl : LChA.tab.before a s = true := unparts (wk ql (.code LChA.yN LChA.yB 2 (some .char))) (wks ql (.initialized LChA.yN.cls :: LChA.site))
  have hi : IsL.tab.before a s = true := unparts (wk h (.code IsL.yN IsL.yB 1 (some .boolean))) (wks h (.initialized IsL.yN.cls :: IsL.site))
  have q := consq hi (consq hl h)
  exact unparts (wk q (.code ChN.yN ChN.yB 2 (some .char))) (wks q (.initialized ChN.yN.cls :: ChN.site))
theorem movedChN {Z s : State} {a0 args : Array Value} (hZ : Z.Warmed39 s.vm) (hw : ∀ d ∈ wordsChN, d.before a0 Z = true) : ∀ d ∈ wordsChN, d.before args s = true := fun d hd => by
  have t : ∀ d ∈ wordsChN, (d.onTables && d.keepsFace) = true := by decide +kernel
  exact RoadKit.mv hZ (hw d hd) (t d hd)
/-- **charAt(i) OF A LATIN-1 STRING**, i < n: the char -/
theorem chN {p : Program} {l : Launch} {e : Env} {R : Room} {s : State} {args : Array Value} {below : List Frame} {len W : Nat} {Z : State} {a0 : Array Value} {h : Heap} (hZ : Z.Warmed39 s.vm) (hw : ∀ d ∈ wordsChN, d.before a0 Z = true) {kI : Nat} (wi : (Jvm.Cond.instantiable ST kI).before a0 Z = true)
    {x t : Addr} {kb : ClassId} {cs : List Int32} {N2 z : Int32} {vs : List Value} {fm : Value} {i : Nat} {j : Int32} (E : RoadKit.Exa Z h x ST) (V : RoadKit.Fld Z h x ST "value" "[B" (.ref t)) (C : RoadKit.Fld Z h x ST "coder" "B" (.int 0)) (K : RoadKit.Arv Z h t kb .byte N2 vs (.int 0)) (hc : CodA cs 0 N2 vs) (hb : ∀ c ∈ cs, ¬ c < 0 ∧ ¬ (65535 : Int32) < c)
    (S : RoadKit.Sta Z h ST "COMPACT_STRINGS" "Z" (.int z)) (hz : ¬ z = 0) (F : RoadKit.Sta Z h "jdk/internal/util/Preconditions" "SIOOBE_FORMATTER" "Ljava/util/function/BiFunction;" fm) (rf : fm.isRef = true) (l2 : cs.length ≤ 4000) (hi : i < cs.length) (hj : j = Int32.ofNat i) (hfr : 4 ≤ R.frames) (hlo : W + 53 ≤ R.locals) :
    Back l R p e below s args (⟨"java/lang/String", "charAt", "(I)C"⟩ : MethodName) len W (fun P a => a = #[.ref x, .int j] ∧ P.U.heap = h ∧ P.cells + 0 ≤ R.cells ∧ P.slots + 0 ≤ R.slots)
      (fun P _ v B => ∃ L, (v = some (.int (cs.getD i 0)) ∧ L = [] ∧ B.U.heap = h) ∧ B.locs = P.locs ++ L ∧ B.cells = P.cells + 0 ∧ B.slots = P.slots + 0) := by
  subst hj
  intro m meth c P g ig mk a X hg hsize hdg hW hn hp'
  obtain ⟨rfl, rfl, r1, r2⟩ := hp'
  have al : Z.vm.Alike P.U.vm := hZ.alike.trans X.warmed.alike
  obtain ⟨A, hx⟩ := txt_of wi al E V C K hc hb l2
  obtain ⟨v, B, X', ⟨⟨hv, hh⟩, hl, hk, hs⟩, st⟩ := ChN.pays x t A cs.length (fun j => cs.getD j 0) z fm i (tabChN_of (movedChN hZ hw)) hfr hlo m meth c P g ig mk _ X hg hsize hdg hW hn ⟨r1, r2, rfl, hx, hi, sta_is al S, hz, sta_is al F, rf⟩
  exact ⟨v, B, X', ⟨[], ⟨hv, rfl, hh⟩, hl, hk, hs⟩, st⟩
/-- what backV says of its String, as the contracts of this text ask it: cs's low bytes, coder 0 -/
theorem codOf {cs : List Int32} {n : Nat} (hn : cs.length = n) (hb : ∀ c ∈ cs, ¬ 255 < c) : CodA cs 0 (Int32.ofNat n) ((cs.map lo8).map Value.int) := Or.inl ⟨rfl, by rw [hn], by simp [List.map_map, Function.comp_def], hb⟩
end StrChars.Road
end Jvm.Pilot.@@N@@
namespace Jvm.Pilot.@@N@@
open Jvm Jvm.ClassFile Sem Op Lib Jvm.Free Jvm.Stand Jvm.LawKit Jvm.RoadKit Bundle Jvm.Pilot.@@N@@.Jvm.D
namespace Ow
/-! A small logic of walks: Wq says: from every state that stands at pc with these locals, this stack and this heap, the body runs to its end and Post holds there. -/
def Cx (l : Launch) (nw : Bool) (Z : State) (EL : List (String × Nat)) (a0 : Array Value) (n0 : Nat) (y : MethodName) (B : ByteArray) (ml : Nat) (ret : Option FieldType) (R : Room) (h0 : Heap) (fs : List Addr) (h : Heap) (ce sl : Nat)
    (p : Program) (e : Env) (s : State) (m : MethodId) (args : Array Value) (below : List Frame) (meth : Method) (c : Code) (T : State) (locs : List Loc) (vm : Vm) (k : Nat) : Prop :=
  (p.tables.exec = Jvm.exec ∧ c.code = B ∧ c.maxLocals = ml ∧ meth.sig.returnType = ret ∧ meth.locks = false ∧ meth.name = y.name ∧ vm.findClass y.cls = some m.cls ∧ s.heap = h0) ∧
  (Z.Warmed39 vm ∧ (∀ d ∈ tables_1, d.before a0 Z = true) ∧ EW Z a0 EL ∧ (nw = true → vm = s.vm ∧ EL = [])) ∧
  Stand p l e R (s.setVm vm) m args below meth c T locs ce sl ∧ T.heap = h ∧ (Fr n0 locs ∧ Old Z n0 h) ∧ (s.Since vm k ∧ k ≤ h.size) ∧ CHr Z EL s.vm h0 vm h ∧ ∀ x ∈ fs, n0 ≤ x ∧ x < h.size ∧ Safe Z EL vm h x
def Fn (nw : Bool) (Z : State) (EL : List (String × Nat)) (n0 : Nat) (R : Room) (h0 : Heap) (Post : Option Value → Heap → Prop) (p : Program) (e : Env) (s : State) (below : List Frame) (t : State) : Prop :=
  ∃ s₂ o, Steps p.tables e below t s₂ ∧ s₂.status = .running ∧ Ended s₂ below o ∧ ∃ v L, o = .returned v ∧ Post v s₂.heap ∧ (Fr n0 L ∧ Old Z n0 s₂.heap) ∧ CHr Z EL s.vm h0 s₂.vm s₂.heap ∧ ReturnedEndW s o s₂ L R.cells R.slots ∧ (nw = true → s.WarmedH s₂.vm)
def Wq (l : Launch) (nw : Bool) (Z : State) (EL : List (String × Nat)) (a0 : Array Value) (n0 : Nat) (y : MethodName) (B : ByteArray) (ml : Nat) (ret : Option FieldType) (R : Room) (h0 : Heap) (Post : Option Value → Heap → Prop) (fs : List Addr) (h : Heap) (ce sl pc : Nat) (L : Array Slot) (S : List Value) : Prop :=
  ∀ (p : Program) (e : Env) (s : State) (m : MethodId) (args : Array Value) (below : List Frame) (meth : Method) (c : Code) (T : State) (locs : List Loc) (vm : Vm) (k : Nat),
    Cx l nw Z EL a0 n0 y B ml ret R h0 fs h ce sl p e s m args below meth c T locs vm k → Fn nw Z EL n0 R h0 Post p e s below (T.setTop (mkF m pc L S))
section Rules
variable {l : Launch} {nw : Bool} {Z : State} {EL : List (String × Nat)} {a0 : Array Value} {n0 : Nat} {y : MethodName} {B : ByteArray} {ml : Nat} {ret : Option FieldType} {R : Room} {h0 : Heap} {Post : Option Value → Heap → Prop} {fs : List Addr} {h : Heap} {ce sl pc pc' : Nat} {L : Array Slot} {S : List Value}
theorem Fn.st {p : Program} {e : Env} {s : State} {below : List Frame} {t t' : State} (st : ∀ u, Steps p.tables e below t' u → Steps p.tables e below t u) (K : Fn nw Z EL n0 R h0 Post p e s below t') : Fn nw Z EL n0 R h0 Post p e s below t := by
  obtain ⟨s₂, o, h1, r⟩ := K
  exact ⟨s₂, o, st _ h1, r⟩
theorem pu {L' : Array Slot} {S' : List Value} (st : ∀ {p : Program} {e : Env} {m : MethodId} {below : List Frame} {c : Code} {T t : State}, At T m c below → p.tables.exec = Jvm.exec → c.code = B → Steps p.tables e below (T.setTop (mkF m pc' L' S')) t → Steps p.tables e below (T.setTop (mkF m pc L S)) t)
    (K : Wq l nw Z EL a0 n0 y B ml ret R h0 Post fs h ce sl pc' L' S') : Wq l nw Z EL a0 n0 y B ml ret R h0 Post fs h ce sl pc L S := fun p e s m args below meth c T locs vm k C =>
  (K p e s m args below meth c T locs vm k C).st fun u q => st C.2.2.1.here C.1.1 C.1.2.1 q
/-- cells and slots may be counted higher -/
theorem more {ce' sl' : Nat} (hc : ce ≤ ce') (hs : sl ≤ sl') (K : Wq l nw Z EL a0 n0 y B ml ret R h0 Post fs h ce' sl' pc L S) : Wq l nw Z EL a0 n0 y B ml ret R h0 Post fs h ce sl pc L S := fun p e s m args below meth c T locs vm k C =>
  K p e s m args below meth c T locs vm k ⟨C.1, C.2.1, C.2.2.1.more hc hs, C.2.2.2⟩
theorem fewer {fs' : List Addr} (hf : ∀ x ∈ fs', x ∈ fs) (K : Wq l nw Z EL a0 n0 y B ml ret R h0 Post fs' h ce sl pc L S) : Wq l nw Z EL a0 n0 y B ml ret R h0 Post fs h ce sl pc L S := fun p e s m args below meth c T locs vm k C =>
  K p e s m args below meth c T locs vm k ⟨C.1, C.2.1, C.2.2.1, C.2.2.2.1, C.2.2.2.2.1, C.2.2.2.2.2.1, C.2.2.2.2.2.2.1, fun x hx => C.2.2.2.2.2.2.2 x (hf x hx)⟩
theorem at' {L' : Array Slot} {S' : List Value} {ce' sl' : Nat} (e4 : ce = ce') (e5 : sl = sl') (e1 : pc = pc') (e2 : L = L') (e3 : S = S') (K : Wq l nw Z EL a0 n0 y B ml ret R h0 Post fs h ce' sl' pc' L' S') : Wq l nw Z EL a0 n0 y B ml ret R h0 Post fs h ce sl pc L S := by subst e1 e2 e3 e4 e5; exact K
/-- the words of the sheet, at hand in the walk -/
theorem words (K : (∀ d ∈ tables_1, d.before a0 Z = true) → Wq l nw Z EL a0 n0 y B ml ret R h0 Post fs h ce sl pc L S) : Wq l nw Z EL a0 n0 y B ml ret R h0 Post fs h ce sl pc L S := fun p e s m args below meth c T locs vm k C => K C.2.1.2.1 p e s m args below meth c T locs vm k C
theorem ews (K : (∀ d ∈ tables_1, d.before a0 Z = true) → EW Z a0 EL → Wq l nw Z EL a0 n0 y B ml ret R h0 Post fs h ce sl pc L S) : Wq l nw Z EL a0 n0 y B ml ret R h0 Post fs h ce sl pc L S := fun p e s m args below meth c T locs vm k C => K C.2.1.2.1 C.2.1.2.2.1 p e s m args below meth c T locs vm k C
theorem fsz (K : (∀ x ∈ fs, n0 ≤ x ∧ x < h.size) → Wq l nw Z EL a0 n0 y B ml ret R h0 Post fs h ce sl pc L S) : Wq l nw Z EL a0 n0 y B ml ret R h0 Post fs h ce sl pc L S := fun p e s m args below meth c T locs vm k C => K (fun x q => ⟨(C.2.2.2.2.2.2.2 x q).1, (C.2.2.2.2.2.2.2 x q).2.1⟩) p e s m args below meth c T locs vm k C
theorem old (K : Old Z n0 h → h0.size ≤ h.size → Wq l nw Z EL a0 n0 y B ml ret R h0 Post fs h ce sl pc L S) : Wq l nw Z EL a0 n0 y B ml ret R h0 Post fs h ce sl pc L S := fun p e s m args below meth c T locs vm k C => K C.2.2.2.2.1.2 C.2.2.2.2.2.2.1.2.1 p e s m args below meth c T locs vm k C
theorem iload {j : Nat} {v : Int32} (hd : decode B pc = .ok (.iload j, 2)) (hl : L[j]? = some (.val (.int v))) (hp : pc + 2 = pc') (K : Wq l nw Z EL a0 n0 y B ml ret R h0 Post fs h ce sl pc' L (.int v :: S)) : Wq l nw Z EL a0 n0 y B ml ret R h0 Post fs h ce sl pc L S :=
  pu (fun h hx hb q => by subst hp; exact XS.iload h hx rfl (Jvm.hb hb hd) hl q) K
theorem iloadN {j : Fin 4} {v : Int32} (hd : decode B pc = .ok (.iload_n j, 1)) (hl : L[j.val]? = some (.val (.int v))) (hp : pc + 1 = pc') (K : Wq l nw Z EL a0 n0 y B ml ret R h0 Post fs h ce sl pc' L (.int v :: S)) : Wq l nw Z EL a0 n0 y B ml ret R h0 Post fs h ce sl pc L S :=
  pu (fun h hx hb q => by subst hp; exact XS.iloadN h hx rfl (Jvm.hb hb hd) hl q) K
theorem lload {j : Nat} {v : Int64} (hd : decode B pc = .ok (.lload j, 2)) (hl : L[j]? = some (.val (.long v))) (hp : pc + 2 = pc') (K : Wq l nw Z EL a0 n0 y B ml ret R h0 Post fs h ce sl pc' L (.long v :: S)) : Wq l nw Z EL a0 n0 y B ml ret R h0 Post fs h ce sl pc L S :=
  pu (fun h hx hb q => by subst hp; exact XS.lload h hx rfl (Jvm.hb hb hd) hl q) K
theorem lloadN {j : Fin 4} {v : Int64} (hd : decode B pc = .ok (.lload_n j, 1)) (hl : L[j.val]? = some (.val (.long v))) (hp : pc + 1 = pc') (K : Wq l nw Z EL a0 n0 y B ml ret R h0 Post fs h ce sl pc' L (.long v :: S)) : Wq l nw Z EL a0 n0 y B ml ret R h0 Post fs h ce sl pc L S :=
  pu (fun h hx hb q => by subst hp; exact XS.lloadN h hx rfl (Jvm.hb hb hd) hl q) K
theorem dload {j : Nat} {v : UInt64} (hd : decode B pc = .ok (.dload j, 2)) (hl : L[j]? = some (.val (.double v))) (hp : pc + 2 = pc') (K : Wq l nw Z EL a0 n0 y B ml ret R h0 Post fs h ce sl pc' L (.double v :: S)) : Wq l nw Z EL a0 n0 y B ml ret R h0 Post fs h ce sl pc L S :=
  pu (fun h hx hb q => by subst hp; exact Jvm.Free.XS.dload h hx rfl (Jvm.hb hb hd) hl q) K
theorem dloadN {j : Fin 4} {v : UInt64} (hd : decode B pc = .ok (.dload_n j, 1)) (hl : L[j.val]? = some (.val (.double v))) (hp : pc + 1 = pc') (K : Wq l nw Z EL a0 n0 y B ml ret R h0 Post fs h ce sl pc' L (.double v :: S)) : Wq l nw Z EL a0 n0 y B ml ret R h0 Post fs h ce sl pc L S :=
  pu (fun h hx hb q => by subst hp; exact XS.dloadN h hx rfl (Jvm.hb hb hd) hl q) K
theorem aload {j : Nat} {v : Value} (hd : decode B pc = .ok (.aload j, 2)) (hl : L[j]? = some (.val v)) (hv : v.isRef = true) (hp : pc + 2 = pc') (K : Wq l nw Z EL a0 n0 y B ml ret R h0 Post fs h ce sl pc' L (v :: S)) : Wq l nw Z EL a0 n0 y B ml ret R h0 Post fs h ce sl pc L S :=
  pu (fun h hx hb q => by subst hp; exact XS.aload h hx rfl (Jvm.hb hb hd) hl hv q) K
theorem aloadN {j : Fin 4} {v : Value} (hd : decode B pc = .ok (.aload_n j, 1)) (hl : L[j.val]? = some (.val v)) (hv : v.isRef = true) (hp : pc + 1 = pc') (K : Wq l nw Z EL a0 n0 y B ml ret R h0 Post fs h ce sl pc' L (v :: S)) : Wq l nw Z EL a0 n0 y B ml ret R h0 Post fs h ce sl pc L S :=
  pu (fun h hx hb q => by subst hp; exact XS.aloadN h hx rfl (Jvm.hb hb hd) hl hv q) K
theorem istore {j : Nat} {v : Int32} {L' : Array Slot} (hd : decode B pc = .ok (.istore j, 2)) (hl : storeLocals L j (.int v) = some L') (hp : pc + 2 = pc') (K : Wq l nw Z EL a0 n0 y B ml ret R h0 Post fs h ce sl pc' L' S) : Wq l nw Z EL a0 n0 y B ml ret R h0 Post fs h ce sl pc L (.int v :: S) :=
  pu (fun h hx hb q => by subst hp; exact XS.istore h hx rfl (Jvm.hb hb hd) rfl hl q) K
theorem istoreN {j : Fin 4} {v : Int32} {L' : Array Slot} (hd : decode B pc = .ok (.istore_n j, 1)) (hl : storeLocals L j.val (.int v) = some L') (hp : pc + 1 = pc') (K : Wq l nw Z EL a0 n0 y B ml ret R h0 Post fs h ce sl pc' L' S) : Wq l nw Z EL a0 n0 y B ml ret R h0 Post fs h ce sl pc L (.int v :: S) :=
  pu (fun h hx hb q => by subst hp; exact XS.istoreN h hx rfl (Jvm.hb hb hd) rfl hl q) K
theorem lstore {j : Nat} {v : Int64} {L' : Array Slot} (hd : decode B pc = .ok (.lstore j, 2)) (hl : storeLocals L j (.long v) = some L') (hp : pc + 2 = pc') (K : Wq l nw Z EL a0 n0 y B ml ret R h0 Post fs h ce sl pc' L' S) : Wq l nw Z EL a0 n0 y B ml ret R h0 Post fs h ce sl pc L (.long v :: S) :=
  pu (fun h hx hb q => by subst hp; exact XS.lstore h hx rfl (Jvm.hb hb hd) rfl hl q) K
theorem lstoreN {j : Fin 4} {v : Int64} {L' : Array Slot} (hd : decode B pc = .ok (.lstore_n j, 1)) (hl : storeLocals L j.val (.long v) = some L') (hp : pc + 1 = pc') (K : Wq l nw Z EL a0 n0 y B ml ret R h0 Post fs h ce sl pc' L' S) : Wq l nw Z EL a0 n0 y B ml ret R h0 Post fs h ce sl pc L (.long v :: S) :=
  pu (fun h hx hb q => by subst hp; exact XS.lstoreN h hx rfl (Jvm.hb hb hd) rfl hl q) K
theorem dstore {j : Nat} {v : UInt64} {L' : Array Slot} (hd : decode B pc = .ok (.dstore j, 2)) (hl : storeLocals L j (.double v) = some L') (hp : pc + 2 = pc') (K : Wq l nw Z EL a0 n0 y B ml ret R h0 Post fs h ce sl pc' L' S) : Wq l nw Z EL a0 n0 y B ml ret R h0 Post fs h ce sl pc L (.double v :: S) :=
  pu (fun h hx hb q => by subst hp; exact XS.dstore h hx rfl (Jvm.hb hb hd) rfl hl q) K
theorem dstoreN {j : Fin 4} {v : UInt64} {L' : Array Slot} (hd : decode B pc = .ok (.dstore_n j, 1)) (hl : storeLocals L j.val (.double v) = some L') (hp : pc + 1 = pc') (K : Wq l nw Z EL a0 n0 y B ml ret R h0 Post fs h ce sl pc' L' S) : Wq l nw Z EL a0 n0 y B ml ret R h0 Post fs h ce sl pc L (.double v :: S) :=
  pu (fun h hx hb q => by subst hp; exact XS.dstoreN h hx rfl (Jvm.hb hb hd) rfl hl q) K
theorem astore {j : Nat} {v : Value} {L' : Array Slot} (hd : decode B pc = .ok (.astore j, 2)) (hv : v.isRef = true) (hl : storeLocals L j v = some L') (hp : pc + 2 = pc') (K : Wq l nw Z EL a0 n0 y B ml ret R h0 Post fs h ce sl pc' L' S) : Wq l nw Z EL a0 n0 y B ml ret R h0 Post fs h ce sl pc L (v :: S) :=
  pu (fun h hx hb q => by subst hp; exact XS.astore h hx rfl (Jvm.hb hb hd) rfl hv hl q) K
theorem astoreN {j : Fin 4} {v : Value} {L' : Array Slot} (hd : decode B pc = .ok (.astore_n j, 1)) (hv : v.isRef = true) (hl : storeLocals L j.val v = some L') (hp : pc + 1 = pc') (K : Wq l nw Z EL a0 n0 y B ml ret R h0 Post fs h ce sl pc' L' S) : Wq l nw Z EL a0 n0 y B ml ret R h0 Post fs h ce sl pc L (v :: S) :=
  pu (fun h hx hb q => by subst hp; exact XS.astoreN h hx rfl (Jvm.hb hb hd) rfl hv hl q) K
theorem iconst {i : Int} {v : Int32} (hd : decode B pc = .ok (.iconst i, 1)) (hv : Int32.ofInt i = v) (hp : pc + 1 = pc') (K : Wq l nw Z EL a0 n0 y B ml ret R h0 Post fs h ce sl pc' L (.int v :: S)) : Wq l nw Z EL a0 n0 y B ml ret R h0 Post fs h ce sl pc L S :=
  pu (fun h hx hb q => by subst hp hv; exact XS.iconst h hx rfl (Jvm.hb hb hd) q) K
theorem bipush {i : Int} {v : Int32} (hd : decode B pc = .ok (.bipush i, 2)) (hv : (Int8.ofInt i).toInt32 = v) (hp : pc + 2 = pc') (K : Wq l nw Z EL a0 n0 y B ml ret R h0 Post fs h ce sl pc' L (.int v :: S)) : Wq l nw Z EL a0 n0 y B ml ret R h0 Post fs h ce sl pc L S :=
  pu (fun h hx hb q => by subst hp hv; exact XS.bipush h hx rfl (Jvm.hb hb hd) q) K
theorem sipush {i : Int} {v : Int32} (hd : decode B pc = .ok (.sipush i, 3)) (hv : (Int16.ofInt i).toInt32 = v) (hp : pc + 3 = pc') (K : Wq l nw Z EL a0 n0 y B ml ret R h0 Post fs h ce sl pc' L (.int v :: S)) : Wq l nw Z EL a0 n0 y B ml ret R h0 Post fs h ce sl pc L S :=
  pu (fun h hx hb q => by subst hp hv; exact XS.sipush h hx rfl (Jvm.hb hb hd) q) K
theorem lconst {j : Fin 2} {v : Int64} (hd : decode B pc = .ok (.lconst j, 1)) (hv : Int64.ofNat j = v) (hp : pc + 1 = pc') (K : Wq l nw Z EL a0 n0 y B ml ret R h0 Post fs h ce sl pc' L (.long v :: S)) : Wq l nw Z EL a0 n0 y B ml ret R h0 Post fs h ce sl pc L S :=
  pu (fun h hx hb q => by subst hp hv; exact XS.lconst h hx rfl (Jvm.hb hb hd) q) K
theorem aconst_null  (hd : decode B pc = .ok (.aconst_null, 1)) (hp : pc + 1 = pc') (K : Wq l nw Z EL a0 n0 y B ml ret R h0 Post fs h ce sl pc' L (.null :: S)) : Wq l nw Z EL a0 n0 y B ml ret R h0 Post fs h ce sl pc L S :=
  pu (fun h hx hb q => by subst hp; exact XS.aconstNull h hx rfl (Jvm.hb hb hd) q) K
theorem iadd {x z : Int32} (hd : decode B pc = .ok (.iadd, 1)) (hp : pc + 1 = pc') (K : Wq l nw Z EL a0 n0 y B ml ret R h0 Post fs h ce sl pc' L (.int (x + z) :: S)) : Wq l nw Z EL a0 n0 y B ml ret R h0 Post fs h ce sl pc L (.int z :: .int x :: S) :=
  pu (fun h hx hb q => by subst hp; exact XS.iadd h hx rfl (Jvm.hb hb hd) rfl q) K
theorem isub {x z : Int32} (hd : decode B pc = .ok (.isub, 1)) (hp : pc + 1 = pc') (K : Wq l nw Z EL a0 n0 y B ml ret R h0 Post fs h ce sl pc' L (.int (x - z) :: S)) : Wq l nw Z EL a0 n0 y B ml ret R h0 Post fs h ce sl pc L (.int z :: .int x :: S) :=
  pu (fun h hx hb q => by subst hp; exact XS.isub h hx rfl (Jvm.hb hb hd) rfl q) K
theorem imul {x z : Int32} (hd : decode B pc = .ok (.imul, 1)) (hp : pc + 1 = pc') (K : Wq l nw Z EL a0 n0 y B ml ret R h0 Post fs h ce sl pc' L (.int (x * z) :: S)) : Wq l nw Z EL a0 n0 y B ml ret R h0 Post fs h ce sl pc L (.int z :: .int x :: S) :=
  pu (fun h hx hb q => by subst hp; exact XS.imul h hx rfl (Jvm.hb hb hd) rfl q) K
theorem iand {x z : Int32} (hd : decode B pc = .ok (.iand, 1)) (hp : pc + 1 = pc') (K : Wq l nw Z EL a0 n0 y B ml ret R h0 Post fs h ce sl pc' L (.int (x &&& z) :: S)) : Wq l nw Z EL a0 n0 y B ml ret R h0 Post fs h ce sl pc L (.int z :: .int x :: S) :=
  pu (fun h hx hb q => by subst hp; exact XS.iand h hx rfl (Jvm.hb hb hd) rfl q) K
theorem ior {x z : Int32} (hd : decode B pc = .ok (.ior, 1)) (hp : pc + 1 = pc') (K : Wq l nw Z EL a0 n0 y B ml ret R h0 Post fs h ce sl pc' L (.int (x ||| z) :: S)) : Wq l nw Z EL a0 n0 y B ml ret R h0 Post fs h ce sl pc L (.int z :: .int x :: S) :=
  pu (fun h hx hb q => by subst hp; exact XS.ior h hx rfl (Jvm.hb hb hd) rfl q) K
theorem ixor {x z : Int32} (hd : decode B pc = .ok (.ixor, 1)) (hp : pc + 1 = pc') (K : Wq l nw Z EL a0 n0 y B ml ret R h0 Post fs h ce sl pc' L (.int (x ^^^ z) :: S)) : Wq l nw Z EL a0 n0 y B ml ret R h0 Post fs h ce sl pc L (.int z :: .int x :: S) :=
  pu (fun h hx hb q => by subst hp; exact XS.ixor h hx rfl (Jvm.hb hb hd) rfl q) K
theorem ishl {x z : Int32} (hd : decode B pc = .ok (.ishl, 1)) (hp : pc + 1 = pc') (K : Wq l nw Z EL a0 n0 y B ml ret R h0 Post fs h ce sl pc' L (.int (x <<< (z &&& 31)) :: S)) : Wq l nw Z EL a0 n0 y B ml ret R h0 Post fs h ce sl pc L (.int z :: .int x :: S) :=
  pu (fun h hx hb q => by subst hp; exact XS.ishl h hx rfl (Jvm.hb hb hd) rfl q) K
theorem ishr {x z : Int32} (hd : decode B pc = .ok (.ishr, 1)) (hp : pc + 1 = pc') (K : Wq l nw Z EL a0 n0 y B ml ret R h0 Post fs h ce sl pc' L (.int (x >>> (z &&& 31)) :: S)) : Wq l nw Z EL a0 n0 y B ml ret R h0 Post fs h ce sl pc L (.int z :: .int x :: S) :=
  pu (fun h hx hb q => by subst hp; exact XS.ishr h hx rfl (Jvm.hb hb hd) rfl q) K
theorem iushr {x z : Int32} (hd : decode B pc = .ok (.iushr, 1)) (hp : pc + 1 = pc') (K : Wq l nw Z EL a0 n0 y B ml ret R h0 Post fs h ce sl pc' L (.int ((x.toUInt32 >>> (z &&& 31).toUInt32).toInt32) :: S)) : Wq l nw Z EL a0 n0 y B ml ret R h0 Post fs h ce sl pc L (.int z :: .int x :: S) :=
  pu (fun h hx hb q => by subst hp; exact XS.iushr h hx rfl (Jvm.hb hb hd) rfl q) K
theorem ladd {x z : Int64} (hd : decode B pc = .ok (.ladd, 1)) (hp : pc + 1 = pc') (K : Wq l nw Z EL a0 n0 y B ml ret R h0 Post fs h ce sl pc' L (.long (x + z) :: S)) : Wq l nw Z EL a0 n0 y B ml ret R h0 Post fs h ce sl pc L (.long z :: .long x :: S) :=
  pu (fun h hx hb q => by subst hp; exact XS.ladd h hx rfl (Jvm.hb hb hd) rfl q) K
theorem lsub {x z : Int64} (hd : decode B pc = .ok (.lsub, 1)) (hp : pc + 1 = pc') (K : Wq l nw Z EL a0 n0 y B ml ret R h0 Post fs h ce sl pc' L (.long (x - z) :: S)) : Wq l nw Z EL a0 n0 y B ml ret R h0 Post fs h ce sl pc L (.long z :: .long x :: S) :=
  pu (fun h hx hb q => by subst hp; exact XS.lsub h hx rfl (Jvm.hb hb hd) rfl q) K
theorem lmul {x z : Int64} (hd : decode B pc = .ok (.lmul, 1)) (hp : pc + 1 = pc') (K : Wq l nw Z EL a0 n0 y B ml ret R h0 Post fs h ce sl pc' L (.long (x * z) :: S)) : Wq l nw Z EL a0 n0 y B ml ret R h0 Post fs h ce sl pc L (.long z :: .long x :: S) :=
  pu (fun h hx hb q => by subst hp; exact XS.lmul h hx rfl (Jvm.hb hb hd) rfl q) K
theorem land {x z : Int64} (hd : decode B pc = .ok (.land, 1)) (hp : pc + 1 = pc') (K : Wq l nw Z EL a0 n0 y B ml ret R h0 Post fs h ce sl pc' L (.long (x &&& z) :: S)) : Wq l nw Z EL a0 n0 y B ml ret R h0 Post fs h ce sl pc L (.long z :: .long x :: S) :=
  pu (fun h hx hb q => by subst hp; exact XS.land h hx rfl (Jvm.hb hb hd) rfl q) K
theorem lor {x z : Int64} (hd : decode B pc = .ok (.lor, 1)) (hp : pc + 1 = pc') (K : Wq l nw Z EL a0 n0 y B ml ret R h0 Post fs h ce sl pc' L (.long (x ||| z) :: S)) : Wq l nw Z EL a0 n0 y B ml ret R h0 Post fs h ce sl pc L (.long z :: .long x :: S) :=
  pu (fun h hx hb q => by subst hp; exact XS.lor h hx rfl (Jvm.hb hb hd) rfl q) K
theorem lxor {x z : Int64} (hd : decode B pc = .ok (.lxor, 1)) (hp : pc + 1 = pc') (K : Wq l nw Z EL a0 n0 y B ml ret R h0 Post fs h ce sl pc' L (.long (x ^^^ z) :: S)) : Wq l nw Z EL a0 n0 y B ml ret R h0 Post fs h ce sl pc L (.long z :: .long x :: S) :=
  pu (fun h hx hb q => by subst hp; exact XS.lxor h hx rfl (Jvm.hb hb hd) rfl q) K
theorem lshl {x : Int64} {z : Int32} (hd : decode B pc = .ok (.lshl, 1)) (hp : pc + 1 = pc') (K : Wq l nw Z EL a0 n0 y B ml ret R h0 Post fs h ce sl pc' L (.long (x <<< (z &&& 0x3f).toInt64) :: S)) : Wq l nw Z EL a0 n0 y B ml ret R h0 Post fs h ce sl pc L (.int z :: .long x :: S) :=
  pu (fun h hx hb q => by subst hp; exact XS.lshl h hx rfl (Jvm.hb hb hd) rfl q) K
theorem lshr {x : Int64} {z : Int32} (hd : decode B pc = .ok (.lshr, 1)) (hp : pc + 1 = pc') (K : Wq l nw Z EL a0 n0 y B ml ret R h0 Post fs h ce sl pc' L (.long (x >>> (z &&& 0x3f).toInt64) :: S)) : Wq l nw Z EL a0 n0 y B ml ret R h0 Post fs h ce sl pc L (.int z :: .long x :: S) :=
  pu (fun h hx hb q => by subst hp; exact XS.lshr h hx rfl (Jvm.hb hb hd) rfl q) K
theorem lushr {x : Int64} {z : Int32} (hd : decode B pc = .ok (.lushr, 1)) (hp : pc + 1 = pc') (K : Wq l nw Z EL a0 n0 y B ml ret R h0 Post fs h ce sl pc' L (.long ((x.toUInt64 >>> (z &&& 0x3f).toInt64.toUInt64).toInt64) :: S)) : Wq l nw Z EL a0 n0 y B ml ret R h0 Post fs h ce sl pc L (.int z :: .long x :: S) :=
  pu (fun h hx hb q => by subst hp; exact XS.lushr h hx rfl (Jvm.hb hb hd) rfl q) K
theorem idiv {x z : Int32} (hd : decode B pc = .ok (.idiv, 1)) (hz : ¬ z = 0) (hp : pc + 1 = pc') (K : Wq l nw Z EL a0 n0 y B ml ret R h0 Post fs h ce sl pc' L (.int (x / z) :: S)) : Wq l nw Z EL a0 n0 y B ml ret R h0 Post fs h ce sl pc L (.int z :: .int x :: S) :=
  pu (fun h hx hb q => by subst hp; exact XS.idiv h hx rfl (Jvm.hb hb hd) rfl hz q) K
theorem ldiv {x z : Int64} (hd : decode B pc = .ok (.ldiv, 1)) (hz : ¬ z = 0) (hp : pc + 1 = pc') (K : Wq l nw Z EL a0 n0 y B ml ret R h0 Post fs h ce sl pc' L (.long (x / z) :: S)) : Wq l nw Z EL a0 n0 y B ml ret R h0 Post fs h ce sl pc L (.long z :: .long x :: S) :=
  pu (fun h hx hb q => by subst hp; exact XS.ldiv h hx rfl (Jvm.hb hb hd) rfl hz q) K
theorem irem {x z : Int32} (hd : decode B pc = .ok (.irem, 1)) (hz : ¬ z = 0) (hp : pc + 1 = pc') (K : Wq l nw Z EL a0 n0 y B ml ret R h0 Post fs h ce sl pc' L (.int (x % z) :: S)) : Wq l nw Z EL a0 n0 y B ml ret R h0 Post fs h ce sl pc L (.int z :: .int x :: S) := fun p e s m args below meth c T locs vm k C =>
  (K p e s m args below meth c T locs vm k C).st fun u q => by subst hp; exact iremM C.2.2.1 C.1.1 rfl (Jvm.hb C.1.2.1 hd) rfl hz q
theorem i2l {x : Int32} (hd : decode B pc = .ok (.i2l, 1)) (hp : pc + 1 = pc') (K : Wq l nw Z EL a0 n0 y B ml ret R h0 Post fs h ce sl pc' L (.long (x.toInt64) :: S)) : Wq l nw Z EL a0 n0 y B ml ret R h0 Post fs h ce sl pc L (.int x :: S) :=
  pu (fun h hx hb q => by subst hp; exact XS.i2l h hx rfl (Jvm.hb hb hd) rfl q) K
theorem l2i {x : Int64} (hd : decode B pc = .ok (.l2i, 1)) (hp : pc + 1 = pc') (K : Wq l nw Z EL a0 n0 y B ml ret R h0 Post fs h ce sl pc' L (.int (x.toInt32) :: S)) : Wq l nw Z EL a0 n0 y B ml ret R h0 Post fs h ce sl pc L (.long x :: S) :=
  pu (fun h hx hb q => by subst hp; exact XS.l2i h hx rfl (Jvm.hb hb hd) rfl q) K
theorem i2b {x : Int32} (hd : decode B pc = .ok (.i2b, 1)) (hp : pc + 1 = pc') (K : Wq l nw Z EL a0 n0 y B ml ret R h0 Post fs h ce sl pc' L (.int (x.toInt8.toInt32) :: S)) : Wq l nw Z EL a0 n0 y B ml ret R h0 Post fs h ce sl pc L (.int x :: S) :=
  pu (fun h hx hb q => by subst hp; exact XS.i2b h hx rfl (Jvm.hb hb hd) rfl q) K
theorem i2c {x : Int32} (hd : decode B pc = .ok (.i2c, 1)) (hp : pc + 1 = pc') (K : Wq l nw Z EL a0 n0 y B ml ret R h0 Post fs h ce sl pc' L (.int (x.toUInt32.toUInt16.toUInt32.toInt32) :: S)) : Wq l nw Z EL a0 n0 y B ml ret R h0 Post fs h ce sl pc L (.int x :: S) :=
  pu (fun h hx hb q => by subst hp; exact XS.i2c h hx rfl (Jvm.hb hb hd) rfl q) K
theorem i2s {x : Int32} (hd : decode B pc = .ok (.i2s, 1)) (hp : pc + 1 = pc') (K : Wq l nw Z EL a0 n0 y B ml ret R h0 Post fs h ce sl pc' L (.int (x.toInt16.toInt32) :: S)) : Wq l nw Z EL a0 n0 y B ml ret R h0 Post fs h ce sl pc L (.int x :: S) :=
  pu (fun h hx hb q => by subst hp; exact XS.i2s h hx rfl (Jvm.hb hb hd) rfl q) K
theorem ineg {x : Int32} (hd : decode B pc = .ok (.ineg, 1)) (hp : pc + 1 = pc') (K : Wq l nw Z EL a0 n0 y B ml ret R h0 Post fs h ce sl pc' L (.int (-x) :: S)) : Wq l nw Z EL a0 n0 y B ml ret R h0 Post fs h ce sl pc L (.int x :: S) :=
  pu (fun h hx hb q => by subst hp; exact XS.ineg h hx rfl (Jvm.hb hb hd) rfl q) K
theorem lneg {x : Int64} (hd : decode B pc = .ok (.lneg, 1)) (hp : pc + 1 = pc') (K : Wq l nw Z EL a0 n0 y B ml ret R h0 Post fs h ce sl pc' L (.long (-x) :: S)) : Wq l nw Z EL a0 n0 y B ml ret R h0 Post fs h ce sl pc L (.long x :: S) :=
  pu (fun h hx hb q => by subst hp; exact XS.lneg h hx rfl (Jvm.hb hb hd) rfl q) K
theorem lcmp {x z : Int64} (hd : decode B pc = .ok (.lcmp, 1)) (hp : pc + 1 = pc') (K : Wq l nw Z EL a0 n0 y B ml ret R h0 Post fs h ce sl pc' L (.int (lcmpW x z) :: S)) : Wq l nw Z EL a0 n0 y B ml ret R h0 Post fs h ce sl pc L (.long z :: .long x :: S) :=
  pu (fun h hx hb q => by subst hp; exact XS.lcmp h hx rfl (Jvm.hb hb hd) rfl q) K
theorem iinc {j : Nat} {i : Int} {x v : Int32} {L' : Array Slot} (hd : decode B pc = .ok (.iinc j i, 3)) (hl : L[j]? = some (.val (.int x))) (hv : x + Int32.ofInt i = v) (hl' : storeLocals L j (.int v) = some L') (hp : pc + 3 = pc') (K : Wq l nw Z EL a0 n0 y B ml ret R h0 Post fs h ce sl pc' L' S) : Wq l nw Z EL a0 n0 y B ml ret R h0 Post fs h ce sl pc L S :=
  pu (fun h hx hb q => by subst hp hv; exact XS.iinc h hx rfl (Jvm.hb hb hd) hl hl' q) K
theorem dup {v : Value} (hd : decode B pc = .ok (.dup, 1)) (hc : v.category = 1) (hp : pc + 1 = pc') (K : Wq l nw Z EL a0 n0 y B ml ret R h0 Post fs h ce sl pc' L (v :: v :: S)) : Wq l nw Z EL a0 n0 y B ml ret R h0 Post fs h ce sl pc L (v :: S) :=
  pu (fun h hx hb q => by subst hp; exact XS.dup h hx rfl (Jvm.hb hb hd) rfl hc q) K
theorem pop {v : Value} (hd : decode B pc = .ok (.pop, 1)) (hc : v.category = 1) (hp : pc + 1 = pc') (K : Wq l nw Z EL a0 n0 y B ml ret R h0 Post fs h ce sl pc' L S) : Wq l nw Z EL a0 n0 y B ml ret R h0 Post fs h ce sl pc L (v :: S) :=
  pu (fun h hx hb q => by subst hp; exact XS.pop h hx rfl (Jvm.hb hb hd) rfl hc q) K
theorem dup_x1 {v w : Value} (hd : decode B pc = .ok (.dup_x1, 1)) (hc : v.category = 1) (hc2 : w.category = 1) (hp : pc + 1 = pc') (K : Wq l nw Z EL a0 n0 y B ml ret R h0 Post fs h ce sl pc' L (v :: w :: v :: S)) : Wq l nw Z EL a0 n0 y B ml ret R h0 Post fs h ce sl pc L (v :: w :: S) :=
  pu (fun h hx hb q => by subst hp; exact XS.dupX1 h hx rfl (Jvm.hb hb hd) rfl hc hc2 q) K
theorem i2d {x : Int32} (hd : decode B pc = .ok (.i2d, 1)) (hp : pc + 1 = pc') (K : Wq l nw Z EL a0 n0 y B ml ret R h0 Post fs h ce sl pc' L (.double (FP.i2d x) :: S)) : Wq l nw Z EL a0 n0 y B ml ret R h0 Post fs h ce sl pc L (.int x :: S) :=
  pu (fun h hx hb q => by subst hp; exact XS.i2dS h hx rfl (Jvm.hb hb hd) rfl rfl q) K
theorem l2d {x : Int64} (hd : decode B pc = .ok (.l2d, 1)) (hp : pc + 1 = pc') (K : Wq l nw Z EL a0 n0 y B ml ret R h0 Post fs h ce sl pc' L (.double (FP.l2d x) :: S)) : Wq l nw Z EL a0 n0 y B ml ret R h0 Post fs h ce sl pc L (.long x :: S) :=
  pu (fun h hx hb q => by subst hp; exact XS.l2dS h hx rfl (Jvm.hb hb hd) rfl rfl q) K
theorem dcmp {o : CmpOp} {x z : UInt64} (hd : decode B pc = .ok (.dcmp o, 1)) (hp : pc + 1 = pc') (K : Wq l nw Z EL a0 n0 y B ml ret R h0 Post fs h ce sl pc' L (.int (cmpValue (FP.dcmp x z) o) :: S)) : Wq l nw Z EL a0 n0 y B ml ret R h0 Post fs h ce sl pc L (.double z :: .double x :: S) :=
  pu (fun h hx hb q => by subst hp; exact XS.dcmpS h hx rfl (Jvm.hb hb hd) rfl rfl q) K
theorem dconst0 {v : UInt64} (hd : decode B pc = .ok (.dconst 0, 1)) (hv : FP.dconst0 = v) (hp : pc + 1 = pc') (K : Wq l nw Z EL a0 n0 y B ml ret R h0 Post fs h ce sl pc' L (.double v :: S)) : Wq l nw Z EL a0 n0 y B ml ret R h0 Post fs h ce sl pc L S :=
  pu (fun h hx hb q => by subst hp; exact XS.dconst0 h hx rfl (Jvm.hb hb hd) hv q) K
theorem dconst1 {v : UInt64} (hd : decode B pc = .ok (.dconst 1, 1)) (hv : FP.dconst1 = v) (hp : pc + 1 = pc') (K : Wq l nw Z EL a0 n0 y B ml ret R h0 Post fs h ce sl pc' L (.double v :: S)) : Wq l nw Z EL a0 n0 y B ml ret R h0 Post fs h ce sl pc L S :=
  pu (fun h hx hb q => by subst hp; exact XS.dconst1 h hx rfl (Jvm.hb hb hd) hv q) K
theorem dadd {x z v : UInt64} (hd : decode B pc = .ok (.dadd, 1)) (hn : Jvm.Free.Fl.NoNaN64 (FP.dadd x z)) (hv : FP.dadd x z = v) (hp : pc + 1 = pc') (K : Wq l nw Z EL a0 n0 y B ml ret R h0 Post fs h ce sl pc' L (.double v :: S)) : Wq l nw Z EL a0 n0 y B ml ret R h0 Post fs h ce sl pc L (.double z :: .double x :: S) :=
  pu (fun h hx hb q => by subst hp; exact XS.daddS h hx rfl (Jvm.hb hb hd) rfl hn hv q) K
theorem dsub {x z v : UInt64} (hd : decode B pc = .ok (.dsub, 1)) (hn : Jvm.Free.Fl.NoNaN64 (FP.dsub x z)) (hv : FP.dsub x z = v) (hp : pc + 1 = pc') (K : Wq l nw Z EL a0 n0 y B ml ret R h0 Post fs h ce sl pc' L (.double v :: S)) : Wq l nw Z EL a0 n0 y B ml ret R h0 Post fs h ce sl pc L (.double z :: .double x :: S) :=
  pu (fun h hx hb q => by subst hp; exact XS.dsubS h hx rfl (Jvm.hb hb hd) rfl hn hv q) K
theorem dmul {x z v : UInt64} (hd : decode B pc = .ok (.dmul, 1)) (hn : Jvm.Free.Fl.NoNaN64 (FP.dmul x z)) (hv : FP.dmul x z = v) (hp : pc + 1 = pc') (K : Wq l nw Z EL a0 n0 y B ml ret R h0 Post fs h ce sl pc' L (.double v :: S)) : Wq l nw Z EL a0 n0 y B ml ret R h0 Post fs h ce sl pc L (.double z :: .double x :: S) :=
  pu (fun h hx hb q => by subst hp; exact XS.dmulS h hx rfl (Jvm.hb hb hd) rfl hn hv q) K
theorem ddiv {x z v : UInt64} (hd : decode B pc = .ok (.ddiv, 1)) (hn : Jvm.Free.Fl.NoNaN64 (FP.ddiv x z)) (hv : FP.ddiv x z = v) (hp : pc + 1 = pc') (K : Wq l nw Z EL a0 n0 y B ml ret R h0 Post fs h ce sl pc' L (.double v :: S)) : Wq l nw Z EL a0 n0 y B ml ret R h0 Post fs h ce sl pc L (.double z :: .double x :: S) :=
  pu (fun h hx hb q => by subst hp; exact XS.ddivS h hx rfl (Jvm.hb hb hd) rfl hn hv q) K
theorem goto {o : Int} (hd : decode B pc = .ok (.goto o, 3)) (ho : 0 ≤ (pc : Int) + o) (hp : ((pc : Int) + o).toNat = pc') (K : Wq l nw Z EL a0 n0 y B ml ret R h0 Post fs h ce sl pc' L S) : Wq l nw Z EL a0 n0 y B ml ret R h0 Post fs h ce sl pc L S :=
  pu (fun h hx hb q => XS.goto h hx rfl (pc0 := pc) rfl (Jvm.hb hb hd) ho hp q) K
def rel (cd : ClassFile.Cond) (x z : Int32) : Prop := match cd with
  | .eq => x = z
  | .ne => ¬ x = z
  | .lt => x < z
  | .ge => ¬ x < z
  | .gt => z < x
  | .le => ¬ z < x
def relN (cd : ClassFile.Cond) (x z : Int32) : Prop := match cd with
  | .eq => ¬ x = z
  | .ne => x = z
  | .lt => ¬ x < z
  | .ge => x < z
  | .gt => ¬ z < x
  | .le => z < x
theorem rel_t {cd : ClassFile.Cond} {x z : Int32} (h : rel cd x z) : if_icmp.holds cd x z = true := by
  cases cd
  · exact (teq h).1
  · exact (feq h).2
  · exact (tlt h).1
  · exact (flt h).2.1
  · exact (tlt h).2.2.1
  · exact (flt h).2.2.2
theorem rel_f {cd : ClassFile.Cond} {x z : Int32} (h : relN cd x z) : if_icmp.holds cd x z = false := by
  cases cd
  · exact (feq h).1
  · exact (teq h).2
  · exact (flt h).1
  · exact (tlt h).2.1
  · exact (flt h).2.2.1
  · exact (tlt h).2.2.2
theorem rel_or (cd : ClassFile.Cond) (x z : Int32) : rel cd x z ∨ relN cd x z := by
  cases cd <;> simp only [rel, relN] <;> first | exact Decidable.em _ | exact (Decidable.em _).symm
theorem icmpT {cd : ClassFile.Cond} {o : Int} {x z : Int32} (hd : decode B pc = .ok (.if_icmp cd o, 3)) (hc : rel cd x z) (ho : 0 ≤ (pc : Int) + o) (hp : ((pc : Int) + o).toNat = pc') (K : Wq l nw Z EL a0 n0 y B ml ret R h0 Post fs h ce sl pc' L S) : Wq l nw Z EL a0 n0 y B ml ret R h0 Post fs h ce sl pc L (.int z :: .int x :: S) :=
  pu (fun h hx hb q => XS.icmpYes h hx rfl (pc0 := pc) rfl (Jvm.hb hb hd) rfl (rel_t hc) ho hp q) K
theorem icmpF {cd : ClassFile.Cond} {o : Int} {x z : Int32} (hd : decode B pc = .ok (.if_icmp cd o, 3)) (hc : relN cd x z) (hp : pc + 3 = pc') (K : Wq l nw Z EL a0 n0 y B ml ret R h0 Post fs h ce sl pc' L S) : Wq l nw Z EL a0 n0 y B ml ret R h0 Post fs h ce sl pc L (.int z :: .int x :: S) :=
  pu (fun h hx hb q => by subst hp; exact XS.icmpNo h hx rfl (Jvm.hb hb hd) rfl (rel_f hc) q) K
theorem icmp {cd : ClassFile.Cond} {o : Int} {x z : Int32} {pcF : Nat} (hd : decode B pc = .ok (.if_icmp cd o, 3)) (ho : 0 ≤ (pc : Int) + o) (hp : ((pc : Int) + o).toNat = pc') (hp2 : pc + 3 = pcF) (K : rel cd x z → Wq l nw Z EL a0 n0 y B ml ret R h0 Post fs h ce sl pc' L S) (K2 : relN cd x z → Wq l nw Z EL a0 n0 y B ml ret R h0 Post fs h ce sl pcF L S) : Wq l nw Z EL a0 n0 y B ml ret R h0 Post fs h ce sl pc L (.int z :: .int x :: S) :=
  (rel_or cd x z).elim (fun q => icmpT hd q ho hp (K q)) (fun q => icmpF hd q hp2 (K2 q))
theorem ifT {cd : ClassFile.Cond} {o : Int} {x : Int32} (hd : decode B pc = .ok (.ifCond cd o, 3)) (hc : rel cd x 0) (ho : 0 ≤ (pc : Int) + o) (hp : ((pc : Int) + o).toNat = pc') (K : Wq l nw Z EL a0 n0 y B ml ret R h0 Post fs h ce sl pc' L S) : Wq l nw Z EL a0 n0 y B ml ret R h0 Post fs h ce sl pc L (.int x :: S) :=
  pu (fun h hx hb q => XS.ifYes h hx rfl (pc0 := pc) rfl (Jvm.hb hb hd) rfl ((if0 _ _).trans (rel_t hc)) ho hp q) K
theorem ifF {cd : ClassFile.Cond} {o : Int} {x : Int32} (hd : decode B pc = .ok (.ifCond cd o, 3)) (hc : relN cd x 0) (hp : pc + 3 = pc') (K : Wq l nw Z EL a0 n0 y B ml ret R h0 Post fs h ce sl pc' L S) : Wq l nw Z EL a0 n0 y B ml ret R h0 Post fs h ce sl pc L (.int x :: S) :=
  pu (fun h hx hb q => by subst hp; exact XS.ifNo h hx rfl (Jvm.hb hb hd) rfl ((if0 _ _).trans (rel_f hc)) q) K
theorem ifc {cd : ClassFile.Cond} {o : Int} {x : Int32} {pcF : Nat} (hd : decode B pc = .ok (.ifCond cd o, 3)) (ho : 0 ≤ (pc : Int) + o) (hp : ((pc : Int) + o).toNat = pc') (hp2 : pc + 3 = pcF) (K : rel cd x 0 → Wq l nw Z EL a0 n0 y B ml ret R h0 Post fs h ce sl pc' L S) (K2 : relN cd x 0 → Wq l nw Z EL a0 n0 y B ml ret R h0 Post fs h ce sl pcF L S) : Wq l nw Z EL a0 n0 y B ml ret R h0 Post fs h ce sl pc L (.int x :: S) :=
  (rel_or cd x 0).elim (fun q => ifT hd q ho hp (K q)) (fun q => ifF hd q hp2 (K2 q))
theorem ifnullT {o : Int} (hd : decode B pc = .ok (.ifnull o, 3)) (ho : 0 ≤ (pc : Int) + o) (hp : ((pc : Int) + o).toNat = pc') (K : Wq l nw Z EL a0 n0 y B ml ret R h0 Post fs h ce sl pc' L S) : Wq l nw Z EL a0 n0 y B ml ret R h0 Post fs h ce sl pc L (.null :: S) :=
  pu (fun h hx hb q => XS.ifnullYes h hx rfl (pc0 := pc) rfl (Jvm.hb hb hd) rfl ho hp q) K
theorem ifnullF {o : Int} {a : Addr} (hd : decode B pc = .ok (.ifnull o, 3)) (hp : pc + 3 = pc') (K : Wq l nw Z EL a0 n0 y B ml ret R h0 Post fs h ce sl pc' L S) : Wq l nw Z EL a0 n0 y B ml ret R h0 Post fs h ce sl pc L (.ref a :: S) :=
  pu (fun h hx hb q => by subst hp; exact XS.ifnullNo h hx rfl (Jvm.hb hb hd) rfl q) K
theorem ifnonnullT {o : Int} {a : Addr} (hd : decode B pc = .ok (.ifnonnull o, 3)) (ho : 0 ≤ (pc : Int) + o) (hp : ((pc : Int) + o).toNat = pc') (K : Wq l nw Z EL a0 n0 y B ml ret R h0 Post fs h ce sl pc' L S) : Wq l nw Z EL a0 n0 y B ml ret R h0 Post fs h ce sl pc L (.ref a :: S) :=
  pu (fun h hx hb q => XS.ifnonnullYes h hx rfl (pc0 := pc) rfl (Jvm.hb hb hd) rfl ho hp q) K
theorem ifnonnullF {o : Int} (hd : decode B pc = .ok (.ifnonnull o, 3)) (hp : pc + 3 = pc') (K : Wq l nw Z EL a0 n0 y B ml ret R h0 Post fs h ce sl pc' L S) : Wq l nw Z EL a0 n0 y B ml ret R h0 Post fs h ce sl pc L (.null :: S) :=
  pu (fun h hx hb q => by subst hp; exact XS.ifnonnullNo h hx rfl (Jvm.hb hb hd) rfl q) K
/-- two references compared: same or not -/
theorem acmp {cd : ACond} {o : Int} {v w : Value} (same : Bool) (hd : decode B pc = .ok (.if_acmp cd o, 3)) (h1 : v.isRef = true) (h2 : w.isRef = true) (hc : decide (v = w) = same) (ho : 0 ≤ (pc : Int) + o) (hp : pc' = if acV cd same = true then ((pc : Int) + o).toNat else pc + 3) (K : Wq l nw Z EL a0 n0 y B ml ret R h0 Post fs h ce sl pc' L S) : Wq l nw Z EL a0 n0 y B ml ret R h0 Post fs h ce sl pc L (w :: v :: S) := fun p e s m args below meth c T locs vm k C =>
  (K p e s m args below meth c T locs vm k C).st fun u q => Jvm.RoadKit.acmp (g := mkF m pc L (w :: v :: S)) C.2.2.1 C.1.1 rfl h1 h2 (pc0 := pc) (pc' := pc') (same := same) rfl (Jvm.hb C.1.2.1 hd) rfl hc ho hp q
/-- a step that hands back a state with the same heap -/
theorem same {L' : Array Slot} {S' : List Value} (st : ∀ {p : Program} {e : Env} {s : State} {m : MethodId} {args : Array Value} {below : List Frame} {meth : Method} {c : Code} {T : State} {locs : List Loc}, p.tables.exec = Jvm.exec → c.code = B → s.vm.findClass y.cls = some m.cls → Z.Warmed39 s.vm → (∀ d ∈ tables_1, d.before a0 Z = true) → T.heap = h → c.maxLocals = ml →
      Stand p l e R s m args below meth c T locs ce sl → ∃ T', Stand p l e R s m args below meth c T' locs ce sl ∧ T'.heap = h ∧ ∀ u, Steps p.tables e below (T'.setTop (mkF m pc' L' S')) u → Steps p.tables e below (T.setTop (mkF m pc L S)) u)
    (K : Wq l nw Z EL a0 n0 y B ml ret R h0 Post fs h ce sl pc' L' S') : Wq l nw Z EL a0 n0 y B ml ret R h0 Post fs h ce sl pc L S := fun p e s m args below meth c T locs vm k C => by
  obtain ⟨⟨hx, hby, hml, hret, hlk, hnm, hown, hh0⟩, ⟨hZ, hw, hEL, hnw⟩, X, hT, ⟨hN, hO⟩, ⟨hS, hk⟩, hC, hF⟩ := C
  obtain ⟨T', X', e', q⟩ := st (s := s.setVm vm) hx hby hown hZ hw hT hml X
  exact (K p e s m args below meth c T' locs vm k ⟨⟨hx, hby, hml, hret, hlk, hnm, hown, hh0⟩, ⟨hZ, hw, hEL, hnw⟩, X', e', ⟨hN, hO⟩, ⟨hS, hk⟩, hC, hF⟩).st q
/-- a step that makes new cells -/
theorem grow {L' : Array Slot} {S' : List Value} {ce' sl' : Nat} {P : Heap → Prop} (st : ∀ {p : Program} {e : Env} {s : State} {m : MethodId} {args : Array Value} {below : List Frame} {meth : Method} {c : Code} {T : State} {locs : List Loc}, p.tables.exec = Jvm.exec → c.code = B → s.vm.findClass y.cls = some m.cls → Z.Warmed39 s.vm → (∀ d ∈ tables_1, d.before a0 Z = true) → T.heap = h → c.maxLocals = ml →
      Stand p l e R s m args below meth c T locs ce sl → ∃ T' h', Stand p l e R s m args below meth c T' locs ce' sl' ∧ T'.heap = h' ∧ Ext h h' ∧ P h' ∧ ∀ u, Steps p.tables e below (T'.setTop (mkF m pc' L' S')) u → Steps p.tables e below (T.setTop (mkF m pc L S)) u)
    {fs' : List Addr} (hfs : ∀ x ∈ fs', x ∈ fs ∨ x = h.size) (hlt : ∀ h', Ext h h' → P h' → h.size < h'.size) (K : ∀ h', Ext h h' → P h' → Wq l nw Z EL a0 n0 y B ml ret R h0 Post fs' h' ce' sl' pc' L' S') : Wq l nw Z EL a0 n0 y B ml ret R h0 Post fs h ce sl pc L S := fun p e s m args below meth c T locs vm k C => by
  obtain ⟨⟨hx, hby, hml, hret, hlk, hnm, hown, hh0⟩, ⟨hZ, hw, hEL, hnw⟩, X, hT, ⟨hN, hO⟩, ⟨hS, hk⟩, hC, hF⟩ := C
  obtain ⟨T', h', X', e', E, hP, q⟩ := st (s := s.setVm vm) hx hby hown hZ hw hT hml X
  have hC' := hC.trans (CHr.ext E hC.1)
  refine (K h' E hP p e s m args below meth c T' locs vm k ⟨⟨hx, hby, hml, hret, hlk, hnm, hown, hh0⟩, ⟨hZ, hw, hEL, hnw⟩, X', e', ⟨hN, hO.ext E⟩, ⟨hS, Nat.le_trans hk E.1⟩, hC', fun x q => ?_⟩).st q
  rcases hfs x q with r | rfl
  · exact ⟨(hF x r).1, Nat.lt_of_lt_of_le (hF x r).2.1 E.1, Safe.ext E hC.1 (hF x r).2.2⟩
  · exact ⟨by have := hO.2.1; rw [hO.1] at this; exact this, hlt h' E hP, Safe.ext E hC.1 (Safe.new (Nat.le_refl _))⟩
/-- a step that writes one slot -/
theorem wrote {S' : List Value} {a : Addr} {j : Nat} {v : Value} (st : ∀ {p : Program} {e : Env} {s : State} {m : MethodId} {args : Array Value} {below : List Frame} {meth : Method} {c : Code} {T : State} {locs : List Loc}, p.tables.exec = Jvm.exec → c.code = B → s.vm.findClass y.cls = some m.cls → meth.name = y.name → Z.Warmed39 s.vm → (∀ d ∈ tables_1, d.before a0 Z = true) → T.heap = h →
      Stand p l e R s m args below meth c T locs ce sl → ∃ T' h', Stand p l e R s m args below meth c T' (locs ++ [⟨a, j⟩]) ce sl ∧ T'.heap = h' ∧ Wr h h' a j v ∧ ∀ u, Steps p.tables e below (T'.setTop (mkF m pc' L S')) u → Steps p.tables e below (T.setTop (mkF m pc L S)) u)
    (hf : a ∈ fs) (K : ∀ h', Wr h h' a j v → Wq l nw Z EL a0 n0 y B ml ret R h0 Post fs h' ce sl pc' L S') : Wq l nw Z EL a0 n0 y B ml ret R h0 Post fs h ce sl pc L S := fun p e s m args below meth c T locs vm k C => by
  obtain ⟨⟨hx, hby, hml, hret, hlk, hnm, hown, hh0⟩, ⟨hZ, hw, hEL, hnw⟩, X, hT, ⟨hN, hO⟩, ⟨hS, hk⟩, hC, hF⟩ := C
  obtain ⟨T', h', X', e', W', q⟩ := st (s := s.setVm vm) hx hby hown hnm hZ hw hT X
  have hsf := (hF a hf).2.2
  have hsz : h'.size = h.size := W'.size
  exact (K h' W' p e s m args below meth c T' _ vm k ⟨⟨hx, hby, hml, hret, hlk, hnm, hown, hh0⟩, ⟨hZ, hw, hEL, hnw⟩, X', e', ⟨Fr.snoc X' hN (hF a hf).1, hO.wr W' (hF a hf).1⟩, ⟨hS, (by rw [hsz]; exact hk)⟩, hC.trans (CHr.wr W' hsf hC.1), fun x r => ⟨(hF x r).1, by rw [hsz]; exact (hF x r).2.1, Safe.wr W' hsf hC.1 (hF x r).2.2⟩⟩).st q
theorem wat {d : Jvm.Cond} (hw : ∀ d ∈ tables_1, d.before a0 Z = true) {i : Nat} (h : tables_1[i]? = some d) : d.before a0 Z = true := hw _ (List.mem_of_getElem? h)
theorem getfield {i ix : Nat} {C n d : String} {a : Addr} {v : Value} (hd : decode B pc = .ok (.getfield ix, 3)) (w : tables_1[i]? = some (.fieldLink y.cls ix C n d)) (F : Fld Z h a C n d v) (hp : pc + 3 = pc') (K : Wq l nw Z EL a0 n0 y B ml ret R h0 Post fs h ce sl pc' L (v :: S)) : Wq l nw Z EL a0 n0 y B ml ret R h0 Post fs h ce sl pc L (.ref a :: S) :=
  same (fun hx hby hown hZ hw hT _ X => by subst hp; exact getF X hx hZ hown (host := "") (Or.inl (wat hw w)) Via.refl hT F (g := mkF _ pc L (.ref a :: S)) rfl rfl (Jvm.hb hby hd)) K
theorem getstatic {i ix : Nat} {C n d : String} {v : Value} (hd : decode B pc = .ok (.getstatic ix, 3)) (w : tables_1[i]? = some (.fieldLink y.cls ix C n d)) (F : Sta Z h C n d v) (hp : pc + 3 = pc') (K : Wq l nw Z EL a0 n0 y B ml ret R h0 Post fs h ce sl pc' L (v :: S)) : Wq l nw Z EL a0 n0 y B ml ret R h0 Post fs h ce sl pc L S :=
  same (fun hx hby hown hZ hw hT _ X => by subst hp; exact getS2 X hx hZ hown (host := "") (Or.inl (wat hw w)) Via.refl hT F (g := mkF _ pc L S) rfl (Jvm.hb hby hd)) K
theorem putfield {i i2 i3 ix kk : Nat} {C O n d : String} {ty : FieldType} {a : Addr} {v v' old : Value} (hd : decode B pc = .ok (.putfield ix, 3)) (w : tables_1[i]? = some (.fieldLink y.cls ix O n d))
    (w2 : tables_1[i2]? = some (.lays C O n d) ∨ (tables_1[i2]? = some (.laysFinal C O n d) ∧ y.cls = O ∧ y.name = "<init>")) (w3 : tables_1[i3]? = some (.instantiable C kk))
    (F : Fld Z h a O n d old) (E : Exa Z h a C) (hty : parseFieldDescriptor d = some ty) (hn : narrow ty v = v') (hfit : fits ty v' = true) (hf : a ∈ fs) (hp : pc + 3 = pc')
    (K : ∀ h', Wr h h' a (Jvm.RoadKit.slotOf Z O n d) v' → Wq l nw Z EL a0 n0 y B ml ret R h0 Post fs h' ce sl pc' L S) : Wq l nw Z EL a0 n0 y B ml ret R h0 Post fs h ce sl pc L (v :: .ref a :: S) :=
  wrote (fun hx hby hown hnm hZ hw hT X => by subst hp; exact putFN X hx hZ hown (wat hw w) Via.refl hT F E (w2.imp (fun q => wat hw q) fun q => ⟨wat hw q.1, q.2.1, hnm.trans q.2.2⟩) (wat hw w3) hty hn hfit (g := mkF _ pc L (v :: .ref a :: S)) rfl rfl (Jvm.hb hby hd))
    hf K
theorem new {i i2 i3 ix n : Nat} {C : String} (hd : decode B pc = .ok (.new ix, 3)) (w : tables_1[i]? = some (.classLink y.cls ix C)) (w2 : tables_1[i2]? = some (.instantiable C n)) (w3 : tables_1[i3]? = some (.initialized C)) (hc : ce + 1 ≤ R.cells) (hs : sl + n ≤ R.slots) (hp : pc + 3 = pc')
    (K : ∀ h' a, a = h.size → Ext h h' → Exa Z h' a C → (∀ {O nm d : String} {ty : FieldType}, Laid Z a0 C O nm d → parseFieldDescriptor d = some ty → Fld Z h' a O nm d (defaultValue ty)) → Wq l nw Z EL a0 n0 y B ml ret R h0 Post (a :: fs) h' (ce + 1) (sl + n) pc' L (.ref a :: S)) : Wq l nw Z EL a0 n0 y B ml ret R h0 Post fs h ce sl pc L S :=
  grow (P := fun h' => Exa Z h' h.size C ∧ (∀ {O nm d : String} {ty : FieldType}, Laid Z a0 C O nm d → parseFieldDescriptor d = some ty → Fld Z h' h.size O nm d (defaultValue ty))) (fun hx hby hown hZ hw hT _ X => by
    subst hp
    obtain ⟨T', h', X', e', E, A, D, -, st⟩ := newO X hx hZ hown (wat hw w) (wat hw w2) (wat hw w3) hT (g := mkF _ pc L S) rfl (Jvm.hb hby hd) hc hs
    exact ⟨T', h', X', e', E, ⟨A, D⟩, st⟩) (fs' := h.size :: fs) (fun x q => (List.mem_cons.mp q).symm) (fun h' _ q => q.1.lt) (fun h' E q => K h' _ rfl E q.1 q.2)
theorem newarray {i cap : Nat} {aty : ArrayType} {ty : FieldType} {z : Int32} (hd : decode B pc = .ok (.newarray aty, 2)) (hty : newarray.typeOf aty = ty) (w : tables_1[i]? = some (.arrayClass ty)) (hz : ¬ z < 0) (hcap : z.toNatClampNeg ≤ cap) (hb8 : cap * 8 ≤ 536870912) (hc : ce + 1 ≤ R.cells) (hs : sl + cap ≤ R.slots) (hp : pc + 2 = pc')
    (K : ∀ h' a kc, a = h.size → Ext h h' → Arv Z h' a kc ty z [] (defaultValue ty) → Wq l nw Z EL a0 n0 y B ml ret R h0 Post (a :: fs) h' (ce + 1) (sl + cap) pc' L (.ref a :: S)) : Wq l nw Z EL a0 n0 y B ml ret R h0 Post fs h ce sl pc L (.int z :: S) :=
  grow (P := fun h' => ∃ kc, Arv Z h' h.size kc ty z [] (defaultValue ty)) (fun hx hby hown hZ hw hT _ X => by
    subst hp hty
    obtain ⟨T', h', kc, X', e', E, A, st⟩ := newP X hx hZ (wat hw w) hT (g := mkF _ pc L (.int z :: S)) rfl (Jvm.hb hby hd) rfl hz hcap hb8 hc hs
    exact ⟨T', h', X', e', E, ⟨kc, Arv.new A hz⟩, st⟩) (fs' := h.size :: fs) (fun x q => (List.mem_cons.mp q).symm) (fun h' _ q => q.elim fun kc r => r.lt) (fun h' E q => q.elim fun kc r => K h' _ kc rfl E r)
theorem arraylength {a : Addr} {kc : ClassId} {ty : FieldType} {z : Int32} {vs : List Value} {dv : Value} (hd : decode B pc = .ok (.arraylength, 1)) (F : Arv Z h a kc ty z vs dv) (hp : pc + 1 = pc') (K : Wq l nw Z EL a0 n0 y B ml ret R h0 Post fs h ce sl pc' L (.int z :: S)) : Wq l nw Z EL a0 n0 y B ml ret R h0 Post fs h ce sl pc L (.ref a :: S) :=
  same (fun {p e s m args below meth c T locs} hx hby hown hZ hw hT _ X => by
    subst hp
    obtain ⟨cl, A, -, hsz, hz, -⟩ := F
    refine ⟨T, X, hT, fun u q => X.arraylength hx (by rw [hT]; exact A.1) (State.isArrayOf_alike hZ.alike A.2.1) (g := mkF _ pc L (.ref a :: S)) rfl rfl (Jvm.hb hby hd) u ?_⟩
    rw [len_of hsz hz]; exact q) K
theorem iaload {a : Addr} {kc : ClassId} {z j : Int32} {vs : List Value} {dv v : Value} (hd : decode B pc = .ok (.iaload, 1)) (F : Arv Z h a kc .int z vs dv) (hj : ¬ j < 0 ∧ j < z) (hv : vs.getD j.toNatClampNeg dv = v) (hp : pc + 1 = pc') (K : Wq l nw Z EL a0 n0 y B ml ret R h0 Post fs h ce sl pc' L (v :: S)) : Wq l nw Z EL a0 n0 y B ml ret R h0 Post fs h ce sl pc L (.int j :: .ref a :: S) :=
  same (fun {p e s m args below meth c T locs} hx hby hown hZ hw hT _ X => by
    subst hp
    obtain ⟨cl, A, -, hsz, hz, hH, -⟩ := F
    have hin := inb_of hsz hj
    exact ⟨T, X, hT, fun u q => X.iaload hx (by rw [hT]; exact A.1) (State.isArrayOf_alike hZ.alike A.2.1) A.2.2 hin (hH.at hin hv) (g := mkF _ pc L (.int j :: .ref a :: S)) rfl rfl (Jvm.hb hby hd) u q⟩) K
theorem caload {a : Addr} {kc : ClassId} {z j : Int32} {vs : List Value} {dv v : Value} (hd : decode B pc = .ok (.caload, 1)) (F : Arv Z h a kc .char z vs dv) (hj : ¬ j < 0 ∧ j < z) (hv : vs.getD j.toNatClampNeg dv = v) (hp : pc + 1 = pc') (K : Wq l nw Z EL a0 n0 y B ml ret R h0 Post fs h ce sl pc' L (v :: S)) : Wq l nw Z EL a0 n0 y B ml ret R h0 Post fs h ce sl pc L (.int j :: .ref a :: S) :=
  same (fun {p e s m args below meth c T locs} hx hby hown hZ hw hT _ X => by
    subst hp
    obtain ⟨cl, A, -, hsz, hz, hH, -⟩ := F
    have hin := inb_of hsz hj
    exact ⟨T, X, hT, fun u q => X.caload hx (by rw [hT]; exact A.1) (State.isArrayOf_alike hZ.alike A.2.1) A.2.2 hin (hH.at hin hv) (g := mkF _ pc L (.int j :: .ref a :: S)) rfl rfl (Jvm.hb hby hd) u q⟩) K
theorem baload {a : Addr} {kc : ClassId} {z j : Int32} {vs : List Value} {dv v : Value} (hd : decode B pc = .ok (.baload, 1)) (F : Arv Z h a kc .byte z vs dv) (hj : ¬ j < 0 ∧ j < z) (hv : vs.getD j.toNatClampNeg dv = v) (hp : pc + 1 = pc') (K : Wq l nw Z EL a0 n0 y B ml ret R h0 Post fs h ce sl pc' L (v :: S)) : Wq l nw Z EL a0 n0 y B ml ret R h0 Post fs h ce sl pc L (.int j :: .ref a :: S) :=
  same (fun {p e s m args below meth c T locs} hx hby hown hZ hw hT _ X => by
    subst hp
    obtain ⟨cl, A, -, hsz, hz, hH, -⟩ := F
    have hin := inb_of hsz hj
    exact ⟨T, X, hT, fun u q => X.baloadBytes hx (by rw [hT]; exact A.1) (State.isArrayOf_alike hZ.alike A.2.1) A.2.2 hin (hH.at hin hv) (g := mkF _ pc L (.int j :: .ref a :: S)) rfl rfl (Jvm.hb hby hd) u q⟩) K
theorem laload {a : Addr} {kc : ClassId} {z j : Int32} {vs : List Value} {dv v : Value} (hd : decode B pc = .ok (.laload, 1)) (F : Arv Z h a kc .long z vs dv) (hj : ¬ j < 0 ∧ j < z) (hv : vs.getD j.toNatClampNeg dv = v) (hp : pc + 1 = pc') (K : Wq l nw Z EL a0 n0 y B ml ret R h0 Post fs h ce sl pc' L (v :: S)) : Wq l nw Z EL a0 n0 y B ml ret R h0 Post fs h ce sl pc L (.int j :: .ref a :: S) :=
  same (fun {p e s m args below meth c T locs} hx hby hown hZ hw hT _ X => by
    subst hp
    obtain ⟨cl, A, -, hsz, hz, hH, -⟩ := F
    have hin := inb_of hsz hj
    exact ⟨T, X, hT, fun u q => X.laload hx (by rw [hT]; exact A.1) (State.isArrayOf_alike hZ.alike A.2.1) A.2.2 hin (hH.at hin hv) (g := mkF _ pc L (.int j :: .ref a :: S)) rfl rfl (Jvm.hb hby hd) u q⟩) K
theorem aaload {a : Addr} {kc : ClassId} {ty : FieldType} {z j : Int32} {vs : List Value} {dv v : Value} (hd : decode B pc = .ok (.aaload, 1)) (hty : ty.isReference = true) (F : Arv Z h a kc ty z vs dv) (hj : ¬ j < 0 ∧ j < z) (hv : vs.getD j.toNatClampNeg dv = v) (hp : pc + 1 = pc') (K : Wq l nw Z EL a0 n0 y B ml ret R h0 Post fs h ce sl pc' L (v :: S)) : Wq l nw Z EL a0 n0 y B ml ret R h0 Post fs h ce sl pc L (.int j :: .ref a :: S) :=
  same (fun {p e s m args below meth c T locs} hx hby hown hZ hw hT _ X => by
    subst hp
    obtain ⟨cl, A, -, hsz, hz, hH, -⟩ := F
    have hin := inb_of hsz hj
    exact ⟨T, X, hT, fun u q => X.aaload hx (by rw [hT]; exact A.1) (State.isArrayOf_alike hZ.alike A.2.1) hty A.2.2 hin (hH.at hin hv) (g := mkF _ pc L (.int j :: .ref a :: S)) rfl rfl (Jvm.hb hby hd) u q⟩) K
theorem castore {a : Addr} {kc : ClassId} {z j x : Int32} {vs : List Value} {dv : Value} (hd : decode B pc = .ok (.castore, 1)) (F : Arv Z h a kc .char z vs dv) (hj : ¬ j < 0 ∧ j < z) (hf : a ∈ fs) (hl : j.toNatClampNeg < vs.length) (hp : pc + 1 = pc')
    (K : ∀ h', Wr h h' a j.toNatClampNeg (.int (nar .char x)) → Arv Z h' a kc .char z (vs.set j.toNatClampNeg (.int (nar .char x))) dv → Wq l nw Z EL a0 n0 y B ml ret R h0 Post fs h' ce sl pc' L S) : Wq l nw Z EL a0 n0 y B ml ret R h0 Post fs h ce sl pc L (.int x :: .int j :: .ref a :: S) := by
  obtain ⟨cl, A, q1, hsz, hz, hH, hG⟩ := F
  have hin := inb_of hsz hj
  exact wrote (fun hx hby hown hnm hZ hw hT X => by subst hp; exact stC X hx hZ hT A hin (g := mkF _ pc L (.int x :: .int j :: .ref a :: S)) rfl rfl (Jvm.hb hby hd))
    hf (fun h' W' => K h' W' (Arv.set A q1 hsz hz hH hG (fits_nar_char _) W' _ rfl hl))
theorem bastore {a : Addr} {kc : ClassId} {z j x : Int32} {vs : List Value} {dv : Value} (hd : decode B pc = .ok (.bastore, 1)) (F : Arv Z h a kc .byte z vs dv) (hj : ¬ j < 0 ∧ j < z) (hf : a ∈ fs) (hl : j.toNatClampNeg < vs.length) (hp : pc + 1 = pc')
    (K : ∀ h', Wr h h' a j.toNatClampNeg (.int (nar .byte x)) → Arv Z h' a kc .byte z (vs.set j.toNatClampNeg (.int (nar .byte x))) dv → Wq l nw Z EL a0 n0 y B ml ret R h0 Post fs h' ce sl pc' L S) : Wq l nw Z EL a0 n0 y B ml ret R h0 Post fs h ce sl pc L (.int x :: .int j :: .ref a :: S) := by
  obtain ⟨cl, A, q1, hsz, hz, hH, hG⟩ := F
  have hin := inb_of hsz hj
  exact wrote (fun hx hby hown hnm hZ hw hT X => by subst hp; exact stB X hx hZ hT A hin (g := mkF _ pc L (.int x :: .int j :: .ref a :: S)) rfl rfl (Jvm.hb hby hd))
    hf (fun h' W' => K h' W' (Arv.set A q1 hsz hz hH hG (fits_nar_byte _) W' _ rfl hl))
theorem iastore {a : Addr} {kc : ClassId} {z j x : Int32} {vs : List Value} {dv : Value} (hd : decode B pc = .ok (.iastore, 1)) (F : Arv Z h a kc .int z vs dv) (hj : ¬ j < 0 ∧ j < z) (hf : a ∈ fs) (hl : j.toNatClampNeg < vs.length) (hp : pc + 1 = pc')
    (K : ∀ h', Wr h h' a j.toNatClampNeg (.int x) → Arv Z h' a kc .int z (vs.set j.toNatClampNeg (.int x)) dv → Wq l nw Z EL a0 n0 y B ml ret R h0 Post fs h' ce sl pc' L S) : Wq l nw Z EL a0 n0 y B ml ret R h0 Post fs h ce sl pc L (.int x :: .int j :: .ref a :: S) := by
  obtain ⟨cl, A, q1, hsz, hz, hH, hG⟩ := F
  have hin := inb_of hsz hj
  exact wrote (fun hx hby hown hnm hZ hw hT X => by subst hp; exact stI X hx hZ hT A hin (g := mkF _ pc L (.int x :: .int j :: .ref a :: S)) rfl rfl (Jvm.hb hby hd))
    hf (fun h' W' => K h' W' (Arv.set A q1 hsz hz hH hG (rfl) W' _ rfl hl))
theorem cloneArr {i1 i2 i3 i4 i5 i6 ix Wd cap : Nat} {ad : String} {a : Addr} {kc : ClassId} {ty : FieldType} {z : Int32} {vs : List Value} {dv : Value} (hd : decode B pc = .ok (.invokevirtual ix, 3)) (w1 : tables_1[i1]? = some (.methodLink y.cls ix ⟨ad, "clone", "()Ljava/lang/Object;"⟩)) (w2 : tables_1[i2]? = some (.sameMethod ad "java/lang/Object" "clone" "()Ljava/lang/Object;")) (w3 : tables_1[i3]? = some (.native ⟨"java/lang/Object", "clone", "()Ljava/lang/Object;"⟩)) (w4 : tables_1[i4]? = some (.instanceMethod ⟨"java/lang/Object", "clone", "()Ljava/lang/Object;"⟩)) (w5 : tables_1[i5]? = some (.selects ad ⟨ad, "clone", "()Ljava/lang/Object;"⟩ ⟨"java/lang/Object", "clone", "()Ljava/lang/Object;"⟩)) (w6 : tables_1[i6]? = some (.castable ad "java/lang/Cloneable"))
    (F : Arv Z h a kc ty z vs dv) (E : Exa Z h a ad) (hsz : L.size = ml) (hfr : 1 ≤ R.frames) (hW : (S.map fun v => v.category).sum ≤ Wd) (hl : Wd + 14 ≤ R.locals) (hcap : z.toNatClampNeg ≤ cap) (hc : ce + 1 ≤ R.cells) (hs : sl + cap ≤ R.slots) (hp : pc + 3 = pc')
    (K : ∀ h' r, r = h.size → Ext h h' → Arv Z h' r kc ty z vs dv → Exa Z h' r ad → Wq l nw Z EL a0 n0 y B ml ret R h0 Post (r :: fs) h' (ce + 1) (sl + cap) pc' L (.ref r :: S)) : Wq l nw Z EL a0 n0 y B ml ret R h0 Post fs h ce sl pc L (.ref a :: S) :=
  grow (P := fun h' => Arv Z h' h.size kc ty z vs dv ∧ Exa Z h' h.size ad) (fun hx hby hown hZ hw hT hml X => by
    subst hp
    obtain ⟨T', h', X', e', Ex, A, E', st⟩ := cloneH X hx hZ hown (wat hw w1) (wat hw w2) (wat hw w3) (wat hw w4) (wat hw w5) (wat hw w6) hT F.arh E (g := mkF _ pc L (.ref a :: S)) rfl (hsz.trans hml.symm) rfl (Jvm.hb hby hd) hfr (W := Wd) (by show 2 * 0 + _ ≤ _; omega) hl hcap hc hs
    exact ⟨T', h', X', e', Ex, ⟨A, E'⟩, st⟩) (fs' := h.size :: fs) (fun x q => (List.mem_cons.mp q).symm) (fun h' _ q => q.1.lt) (fun h' Ex q => K h' _ rfl Ex q.1 q.2)
theorem checkcast {i ix : Nat} {C : String} {a : Addr} (hd : decode B pc = .ok (.checkcast ix, 3)) (w : tables_1[i]? = some (.classLink y.cls ix C)) (F : Ins Z h a C true) (hp : pc + 3 = pc') (K : Wq l nw Z EL a0 n0 y B ml ret R h0 Post fs h ce sl pc' L (.ref a :: S)) : Wq l nw Z EL a0 n0 y B ml ret R h0 Post fs h ce sl pc L (.ref a :: S) :=
  same (fun hx hby hown hZ hw hT _ X => by subst hp; exact castY X hx hZ hown (wat hw w) hT F (g := mkF _ pc L (.ref a :: S)) rfl rfl (Jvm.hb hby hd)) K
theorem checkcastNull {ix : Nat} (hd : decode B pc = .ok (.checkcast ix, 3)) (hp : pc + 3 = pc') (K : Wq l nw Z EL a0 n0 y B ml ret R h0 Post fs h ce sl pc' L (.null :: S)) : Wq l nw Z EL a0 n0 y B ml ret R h0 Post fs h ce sl pc L (.null :: S) :=
  same (fun {p e s m args below meth c T locs} hx hby hown hZ hw hT _ X => by subst hp; exact ⟨T, X, hT, X.checkcastNull hx (g := mkF _ pc L (.null :: S)) rfl rfl (Jvm.hb hby hd)⟩) K
theorem instanceofNull {ix : Nat} (hd : decode B pc = .ok (.instanceof ix, 3)) (hp : pc + 3 = pc') (K : Wq l nw Z EL a0 n0 y B ml ret R h0 Post fs h ce sl pc' L (.int 0 :: S)) : Wq l nw Z EL a0 n0 y B ml ret R h0 Post fs h ce sl pc L (.null :: S) :=
  same (fun {p e s m args below meth c T locs} hx hby hown hZ hw hT _ X => by subst hp; exact ⟨T, X, hT, X.instanceofNull hx (g := mkF _ pc L (.null :: S)) rfl rfl (Jvm.hb hby hd)⟩) K
theorem instanceofY {i ix : Nat} {C : String} {a : Addr} (hd : decode B pc = .ok (.instanceof ix, 3)) (w : tables_1[i]? = some (.classLink y.cls ix C)) (F : Ins Z h a C true) (hp : pc + 3 = pc') (K : Wq l nw Z EL a0 n0 y B ml ret R h0 Post fs h ce sl pc' L (.int 1 :: S)) : Wq l nw Z EL a0 n0 y B ml ret R h0 Post fs h ce sl pc L (.ref a :: S) :=
  same (fun hx hby hown hZ hw hT _ X => by subst hp; exact instY X hx hZ hown (wat hw w) hT F (g := mkF _ pc L (.ref a :: S)) rfl rfl (Jvm.hb hby hd)) K
theorem instanceofN {i ix : Nat} {C D : String} {a : Addr} (hd : decode B pc = .ok (.instanceof ix, 3)) (w : tables_1[i]? = some (.classLink y.cls ix C)) (E : Exa Z h a D) (F : ∃ c t, Z.vm.findClass D = some c ∧ Z.vm.findClass C = some t ∧ Z.vm.assignable c t = false) (hp : pc + 3 = pc') (K : Wq l nw Z EL a0 n0 y B ml ret R h0 Post fs h ce sl pc' L (.int 0 :: S)) : Wq l nw Z EL a0 n0 y B ml ret R h0 Post fs h ce sl pc L (.ref a :: S) :=
  same (fun hx hby hown hZ hw hT _ X => by subst hp; exact instNo X hx hZ hown (wat hw w) hT E F (g := mkF _ pc L (.ref a :: S)) rfl rfl (Jvm.hb hby hd)) K
theorem ldcInt {i ix : Nat} {v : Int32} (hd : decode B pc = .ok (.ldc ix, 2)) (w : tables_1[i]? = some (.constant y.cls ix v)) (hp : pc + 2 = pc') (K : Wq l nw Z EL a0 n0 y B ml ret R h0 Post fs h ce sl pc' L (.int v :: S)) : Wq l nw Z EL a0 n0 y B ml ret R h0 Post fs h ce sl pc L S :=
  same (fun {p e s m args below meth c T locs} hx hby hown hZ hw hT _ X => by subst hp; exact ⟨T, X, hT, X.ldcInt hx hown (mvT hZ (wat hw w)) (g := mkF _ pc L S) rfl (Jvm.hb hby hd)⟩) K
theorem ldc2Long {i ix : Nat} {v : Int64} (hd : decode B pc = .ok (.ldc2_w ix, 3)) (w : tables_1[i]? = some (.constantLong y.cls ix v)) (hp : pc + 3 = pc') (K : Wq l nw Z EL a0 n0 y B ml ret R h0 Post fs h ce sl pc' L (.long v :: S)) : Wq l nw Z EL a0 n0 y B ml ret R h0 Post fs h ce sl pc L S :=
  same (fun {p e s m args below meth c T locs} hx hby hown hZ hw hT _ X => by subst hp; exact ⟨T, X, hT, X.ldc2Long hx hown (mvT hZ (wat hw w)) (g := mkF _ pc L S) rfl (Jvm.hb hby hd)⟩) K
theorem ldc2Double {i ix : Nat} {v : UInt64} (hd : decode B pc = .ok (.ldc2_w ix, 3)) (w : tables_1[i]? = some (.constantDouble y.cls ix v)) (hp : pc + 3 = pc') (K : Wq l nw Z EL a0 n0 y B ml ret R h0 Post fs h ce sl pc' L (.double v :: S)) : Wq l nw Z EL a0 n0 y B ml ret R h0 Post fs h ce sl pc L S :=
  same (fun {p e s m args below meth c T locs} hx hby hown hZ hw hT _ X => by subst hp; exact ⟨T, X, hT, X.ldc2DoubleC hx hown (mvT hZ (wat hw w)) (g := mkF _ pc L S) rfl (Jvm.hb hby hd)⟩) K
theorem initObj {i i2 i3 ix Wd : Nat} {a : Addr} (hd : decode B pc = .ok (.invokespecial ix, 3)) (w : tables_1[i]? = some (.methodLink y.cls ix Lib.objectInit)) (w2 : tables_1[i2]? = some (.instanceMethod Lib.objectInit)) (w3 : tables_1[i3]? = some (.code Lib.objectInit object_method_1_code 1 none))
    (hsz : L.size = ml) (hfr : 1 ≤ R.frames) (hW : (S.map fun v => v.category).sum ≤ Wd) (hl : Wd + 12 ≤ R.locals) (hp : pc + 3 = pc') (K : Wq l nw Z EL a0 n0 y B ml ret R h0 Post fs h ce sl pc' L S) : Wq l nw Z EL a0 n0 y B ml ret R h0 Post fs h ce sl pc L (.ref a :: S) :=
  same (fun {p e s m args below meth c T locs} hx hby hown hZ hw hT hml X => by
    subst hp
    exact initO X hx hZ hown (wat hw w) (wat hw w2) (wat hw w3) hT (g := mkF _ pc L (.ref a :: S)) rfl (hsz.trans hml.symm) rfl (Jvm.hb hby hd) hfr (W := Wd) (by show 2 * 0 + _ ≤ _; omega) hl) K
/-- ldc of a String constant that EL names, its text read -/
theorem ldcStr {i ix n : Nat} {text : String} {vs : List Value} {z : Int32} (hd : decode B pc = .ok (.ldc ix, 2)) (w : tables_1[i]? = some (.stringLink y.cls ix text)) (hwS : ∀ d ∈ Bundle.stringAtoms, d ∈ tables_1) (hmem : (y.cls, ix) ∈ EL) (hnn : nw = false)
    (ht : (∀ c ∈ text.toList, c.toNat < 256) ∧ text.toList.map (fun c => Value.int (Jvm.Lit.byteI c.toNat.toUInt16)) = vs) (hz : ¬ z < 0) (hl : z.toNatClampNeg = vs.length) (hn : 4 * text.toList.length ≤ n) (hbig : n ≤ 536870912) (hc : ce + 2 ≤ R.cells) (hs : sl + (n + 4) ≤ R.slots) (hp : pc + 2 = pc')
    (K : ∀ h' a b kc, Ext h h' → Exa Z h' a "java/lang/String" → Fld Z h' a "java/lang/String" "coder" "B" (.int 0) → Fld Z h' a "java/lang/String" "value" "[B" (.ref b) → Arv Z h' b kc .byte z vs (.int 0) → (∀ x ∈ fs, x ≠ a ∧ x ≠ b) → Wq l nw Z EL a0 n0 y B ml ret R h0 Post fs h' (ce + 2) (sl + (n + 4)) pc' L (.ref a :: S)) : Wq l nw Z EL a0 n0 y B ml ret R h0 Post fs h ce sl pc L S := fun p e s m args below meth c T locs vm k C => by
  obtain ⟨⟨hx, hby, hml, hret, hlk, hnm, hown, hh0⟩, ⟨hZ, hw, hEL, hnw⟩, X, hT, ⟨hN, hO⟩, ⟨hS, hk⟩, hC, hF⟩ := C
  subst hp
  obtain ⟨a, T', h', k1, b, kc, X', e', E, hS', hk', hZ', hown', A, Co, Va, Ar, -, -, hC', -, hne, st⟩ := ldcCH X hx hZ hown (wat hw w) (fun d q => hw d (hwS d q)) hT hS hk hEL hmem hC.1 ht hz hl (g := mkF _ pc L S) rfl (Jvm.hb hby hd) hn hbig hc hs
  refine (K h' a b kc E A Co Va Ar (fun x r => hne x (hC'.safe (hF x r).2.1 (hF x r).2.2)) p e s m args below meth c T' locs T'.vm k1 ⟨⟨hx, hby, hml, hret, hlk, hnm, hown', hh0⟩, ⟨hZ', hw, hEL, fun q => by rw [hnn] at q; cases q⟩, X', e', ⟨hN, hO.ext E⟩, ⟨hS', hk'⟩, hC.trans hC', fun x r => ⟨(hF x r).1, Nat.lt_of_lt_of_le (hF x r).2.1 E.1, hC'.safe (hF x r).2.1 (hF x r).2.2⟩⟩).st st
/-- ldc of any String constant, nothing said of its text -/
theorem ldcAny {i ix n : Nat} {text : String} (hd : decode B pc = .ok (.ldc ix, 2)) (w : tables_1[i]? = some (.stringLink y.cls ix text)) (hwS : ∀ d ∈ Bundle.stringAtoms, d ∈ tables_1) (hnn : nw = false)
    (hn : 4 * text.toList.length ≤ n) (hbig : n ≤ 536870912) (hc : ce + 2 ≤ R.cells) (hs : sl + (n + 4) ≤ R.slots) (hp : pc + 2 = pc')
    (K : ∀ h' a, Ext h h' → Wq l nw Z EL a0 n0 y B ml ret R h0 Post fs h' (ce + 2) (sl + (n + 4)) pc' L (.ref a :: S)) : Wq l nw Z EL a0 n0 y B ml ret R h0 Post fs h ce sl pc L S := fun p e s m args below meth c T locs vm k C => by
  obtain ⟨⟨hx, hby, hml, hret, hlk, hnm, hown, hh0⟩, ⟨hZ, hw, hEL, hnw⟩, X, hT, ⟨hN, hO⟩, ⟨hS, hk⟩, hC, hF⟩ := C
  subst hp
  obtain ⟨a, T', h', k1, X', e', E, hS', hk', hZ', hown', hC', -, st⟩ := ldcOH X hx hZ hown (wat hw w) (fun d q => hw d (hwS d q)) hT hS hk hEL hC.1 (g := mkF _ pc L S) rfl (Jvm.hb hby hd) hn hbig hc hs
  refine (K h' a E p e s m args below meth c T' locs T'.vm k1 ⟨⟨hx, hby, hml, hret, hlk, hnm, hown', hh0⟩, ⟨hZ', hw, hEL, fun q => by rw [hnn] at q; cases q⟩, X', e', ⟨hN, hO.ext E⟩, ⟨hS', hk'⟩, hC.trans hC', fun x r => ⟨(hF x r).1, Nat.lt_of_lt_of_le (hF x r).2.1 E.1, hC'.safe (hF x r).2.1 (hF x r).2.2⟩⟩).st st
/-- the end of a walk -/
theorem leaves {v : Option Value} (hv : ret = none → v = none) (hc : ce ≤ R.cells) (hs : sl ≤ R.slots) (hP : Post v h) (st : ∀ {p : Program} {e : Env} {s : State} {m : MethodId} {args : Array Value} {below : List Frame} {meth : Method} {c : Code} {T : State} {locs : List Loc} {fs : List Frame}, p.tables.exec = Jvm.exec → c.code = B → meth.sig.returnType = ret →
      Stand p l e R s m args below meth c T locs ce sl → (∀ (f : JFrame) (acts : List Action), f.method = m → f.locked = none → f.entered = [] → (doReturn e (T.setTop f) acts v).1 = T.setFrames fs) → Steps p.tables e below (T.setTop (mkF m pc L S)) (T.setFrames fs)) : Wq l nw Z EL a0 n0 y B ml ret R h0 Post fs h ce sl pc L S := fun p e s m args below meth c T locs vm k C => by
  obtain ⟨⟨hx, hby, hml, hret, hlk, hnm, hown, hh0⟩, ⟨hZ, hw, hEL, hnw⟩, X, hT, ⟨hN, hO⟩, ⟨hS, hk⟩, hC, hF⟩ := C
  obtain ⟨fs', h1, h2, h3, hEnd⟩ := X.leaveW hS (by rw [hT]; exact hk) (v := v) (fun q => hv (hret.symm.trans q)) hlk
  have hwm : (s.setVm vm).WarmedH T.vm := X.warmed
  refine ⟨T.setFrames fs', .returned v, st hx hby hret X h1, h2, h3, v, locs, rfl, ?_, ⟨hN, ?_⟩, ?_, ⟨hEnd.1, hEnd.2.1, hEnd.2.2.1, hEnd.2.2.2.mono hc hs⟩, fun q => ?_⟩
  · show Post v T.heap
    rw [hT]; exact hP
  · show Old Z n0 T.heap
    rw [hT]; exact hO
  · show CHr Z EL s.vm h0 T.vm T.heap
    rw [hT]; exact hC.trans (CHv.at X hZ hEL hC.1)
  · show s.WarmedH T.vm
    obtain ⟨q1, -⟩ := hnw q
    subst q1; exact hwm
theorem retV (hd : decode B pc = .ok (.return_, 1)) (hr : ret = none) (hc : ce ≤ R.cells) (hs : sl ≤ R.slots) (hP : Post none h) : Wq l nw Z EL a0 n0 y B ml ret R h0 Post fs h ce sl pc L [] :=
  leaves (fun _ => rfl) hc hs hP (fun hx hby hret X hl => X.returnOut hx (hret.trans hr) (Jvm.hb hby hd) hl)
theorem retA {v : Value} {t : FieldType} (hd : decode B pc = .ok (.areturn, 1)) (hr : ret = some t) (ht : t.isReference = true) (hv : v.isRef = true) (hc : ce ≤ R.cells) (hs : sl ≤ R.slots) (hP : Post (some v) h) : Wq l nw Z EL a0 n0 y B ml ret R h0 Post fs h ce sl pc L (v :: S) :=
  leaves (fun q => by rw [hr] at q; cases q) hc hs hP (fun hx hby hret X hl => retOut X hx (hret.trans hr) (by rcases ref_cases hv with rfl | ⟨q, rfl⟩ <;> cases t <;> rfl) (Or.inr (Or.inr (Or.inr (Or.inr ⟨rfl, ht, hv⟩)))) (Jvm.hb hby hd) hl)
theorem retI {z : Int32} {t : FieldType} (hd : decode B pc = .ok (.ireturn, 1)) (hr : ret = some t) (ht : t = .int ∨ t = .boolean ∨ t = .byte ∨ t = .char ∨ t = .short) (hn : narrow t (.int z) = .int z) (hc : ce ≤ R.cells) (hs : sl ≤ R.slots) (hP : Post (some (.int z)) h) : Wq l nw Z EL a0 n0 y B ml ret R h0 Post fs h ce sl pc L (.int z :: S) :=
  leaves (fun q => by rw [hr] at q; cases q) hc hs hP (fun hx hby hret X hl => retOut X hx (hret.trans hr) hn (Or.inl ⟨rfl, ht, z, rfl⟩) (Jvm.hb hby hd) hl)
theorem retJ {z : Int64} (hd : decode B pc = .ok (.lreturn, 1)) (hr : ret = some .long) (hc : ce ≤ R.cells) (hs : sl ≤ R.slots) (hP : Post (some (.long z)) h) : Wq l nw Z EL a0 n0 y B ml ret R h0 Post fs h ce sl pc L (.long z :: S) :=
  leaves (fun q => by rw [hr] at q; cases q) hc hs hP (fun hx hby hret X hl => retOut X hx (hret.trans hr) rfl (Or.inr (Or.inl ⟨rfl, rfl, z, rfl⟩)) (Jvm.hb hby hd) hl)
theorem retD {z : UInt64} (hd : decode B pc = .ok (.dreturn, 1)) (hr : ret = some .double) (hc : ce ≤ R.cells) (hs : sl ≤ R.slots) (hP : Post (some (.double z)) h) : Wq l nw Z EL a0 n0 y B ml ret R h0 Post fs h ce sl pc L (.double z :: S) :=
  leaves (fun q => by rw [hr] at q; cases q) hc hs hP (fun hx hby hret X hl => retOut X hx (hret.trans hr) rfl (Or.inr (Or.inr (Or.inl ⟨rfl, rfl, z, rfl⟩))) (Jvm.hb hby hd) hl)
end Rules
section Calls
variable {l : Launch} {nw : Bool} {Z : State} {EL : List (String × Nat)} {a0 : Array Value} {n0 : Nat} {y : MethodName} {B : ByteArray} {ml : Nat} {ret : Option FieldType} {R : Room} {h0 : Heap} {Post : Option Value → Heap → Prop} {fs : List Addr} {h : Heap} {ce sl pc pc' : Nat} {L : Array Slot} {S : List Value}
def Met (l : Launch) (nw : Bool) (Z : State) (EL : List (String × Nat)) (n0 : Nat) (y : MethodName) (B : ByteArray) (ml : Nat) (ret : Option FieldType) (R : Room) (ws : List Jvm.Cond) (as' : Array Value) (fs : List Addr) (h : Heap) (Post : Option Value → Heap → Prop) : Prop :=
  MetFree l y (head1 (Jvm.Cond.code y B ml ret :: ws) R) (fun a U => a = as' ∧ Z.Warmed39 U.vm ∧ U.heap = h ∧ CHv Z EL U.vm h ∧ Old Z n0 h ∧ ∀ x ∈ fs, n0 ≤ x ∧ x < h.size ∧ Safe Z EL U.vm h x) (fun _ _ _ _ _ => True)
    (fun _ U o U' => ∃ v L, o = .returned v ∧ (Post v U'.heap ∧ Fr n0 L ∧ Old Z n0 U'.heap) ∧ CHr Z EL U.vm U.heap U'.vm U'.heap ∧ ReturnedEndW U o U' L R.cells R.slots ∧ (nw = true → U.WarmedH U'.vm))
theorem Met.mono {ws : List Jvm.Cond} {as' : Array Value} {Post' : Option Value → Heap → Prop} (M : Met l nw Z EL n0 y B ml ret R ws as' fs h Post) (hP : ∀ v h', Post v h' → Post' v h') : Met l nw Z EL n0 y B ml ret R ws as' fs h Post' :=
  MetFree.mono M (fun _ _ q => q) (fun _ _ _ _ _ q => q) (fun _ _ _ _ _ ⟨v, L, h1, ⟨h2, h3⟩, h4⟩ => ⟨v, L, h1, ⟨hP v _ h2, h3⟩, h4⟩)
theorem Met.of_body {ws : List Jvm.Cond} {as' : Array Value} {L0 : Array Slot} (hpl : plainFor y = true) (hent : ∀ m, entryFrame m as' ml = mkF m 0 L0 []) (hw : ∀ d ∈ tables_1, d.before a0 Z = true) (hEL : EW Z a0 EL) (hnw : nw = true → EL = [])
    (K : Wq l nw Z EL a0 n0 y B ml ret R h Post fs h 0 0 0 L0 []) : Met l nw Z EL n0 y B ml ret R ws as' fs h Post := by
  refine MetFree.of_bodySF hpl hisR ?_
  intro p e s m args below meth c s₁ Bd hml0 hP hK
  obtain ⟨rfl, hZ, hh, hCv, hO, hF⟩ := hP
  have X0 : Stand p l e R (s.setVm s.vm) m args below meth c s₁ [] 0 0 := Stand.of_body Bd
  have e0 : s₁.heap = h := by rw [← hh, Bd.state]; rfl
  have hml : c.maxLocals = ml := hml0
  obtain ⟨s₂, o, h1, h2, h3, v, L, h4, h5, h6, h7, h8, h9⟩ := K p e s m args below meth c s₁ [] s.vm 0 ⟨⟨Bd.exec, Bd.bytes, hml, Bd.returns, BodyLoose.notSynchronized Bd, (name_of_methodNamed Bd.named Bd.method).1, findClass_of_methodNamed Bd.named, hh⟩, ⟨hZ, hw, hEL, fun q => ⟨rfl, hnw q⟩⟩, X0, e0, ⟨Fr.nil n0, hO⟩, ⟨(State.WarmedH.refl s).since 0, Nat.zero_le _⟩, CHr.refl hCv, hF⟩
  exact ⟨s₂, o, castTop (hent m) h1, h2, h3, v, L, h4, ⟨h5, h6⟩, by rw [hh]; exact h7, h8, h9⟩
def Kd (l : Launch) (Z : State) (a0 : Array Value) (y : MethodName) (B : ByteArray) (ml : Nat) (R : Room) (h : Heap) (ce sl pc : Nat) (L : Array Slot) (S : List Value) (z : MethodName) (len Wd : Nat) (as' : Array Value) (S' : List Value) : Prop :=
  ∀ (p : Program) (e : Env) (s : State) (m : MethodId) (args : Array Value) (below : List Frame) (meth : Method) (c : Code) (T : State) (locs : List Loc), p.tables.exec = Jvm.exec → c.code = B → s.vm.findClass y.cls = some m.cls → Z.Warmed39 s.vm → (∀ d ∈ tables_1, d.before a0 Z = true) → T.heap = h → c.maxLocals = ml → Stand p l e R s m args below meth c T locs ce sl →
    (∀ (Pre : Pt → Array Value → Prop) (Po : Pt → Array Value → Option Value → Pt → Prop), Back l R p e below s args z len Wd Pre Po → (∀ vm₁, s.WarmedH vm₁ → Pre ⟨T.setVm vm₁, locs, ce, sl⟩ as') →
      ∃ (v : Option Value) (vm₁ : Vm) (A : Pt), s.WarmedH vm₁ ∧ Stand p l e R s m args below meth c A.U A.locs A.cells A.slots ∧ Po ⟨T.setVm vm₁, locs, ce, sl⟩ as' v A ∧ ∀ u, Steps p.tables e below (A.U.setTop (mkF m (pc + len) L (v.toList ++ S'))) u → Steps p.tables e below (T.setTop (mkF m pc L S)) u) ∧
    (∀ (Pre : Pt → Array Value → Prop) (Po : Pt → Array Value → Option Value → Pt → Prop), BackS l R p e below s args z len Wd Pre Po → (∀ vm₁, s.WarmedH vm₁ → Pre ⟨T.setVm vm₁, locs, ce, sl⟩ as') →
      ∃ (v : Option Value) (vm₁ : Vm) (A : Pt), s.WarmedH vm₁ ∧ Stand p l e R (s.setVm A.U.vm) m args below meth c A.U A.locs A.cells A.slots ∧ s.Since A.U.vm A.U.heap.size ∧ T.heap.size ≤ A.U.heap.size ∧ Po ⟨T.setVm vm₁, locs, ce, sl⟩ as' v A ∧ ∀ u, Steps p.tables e below (A.U.setTop (mkF m (pc + len) L (v.toList ++ S'))) u → Steps p.tables e below (T.setTop (mkF m pc L S)) u)
theorem kStatic {i i2 i3 i4 ix mlz Wd : Nat} {z : MethodName} {Bz : ByteArray} {retz : Option FieldType} {argsL S' : List Value} {ps : List FieldType} {rz : Option FieldType} (hd : decode B pc = .ok (.invokestatic ix, 3)) (w : tables_1[i]? = some (.methodLink y.cls ix z)) (w2 : tables_1[i2]? = some (.static z)) (w3 : tables_1[i3]? = some (.initialized z.cls)) (w4 : tables_1[i4]? = some (.code z Bz mlz retz))
    (hy : z.cls ≠ "java/lang/invoke/MethodHandle" ∧ z.cls ≠ "java/lang/invoke/VarHandle") (hsz : L.size = ml) (hpd : parseMethodDescriptor z.desc = some ⟨ps, rz⟩) (hlen : argsL.length = ps.length) (hst : S = argsL.reverse ++ S') (hW : (S'.map fun v => v.category).sum ≤ Wd) : Kd l Z a0 y B ml R h ce sl pc L S z 3 Wd argsL.toArray S' :=
  fun p e s m args below meth c T locs hx hby hown hZ hw hT hml X =>
  ⟨fun Pre Po hK hpre => by
    obtain ⟨v, vm₁, A, a1, a2, a3, a4⟩ := Jvm.LawKit.callS X hx hown (mvT hZ (wat hw w)) (mvT hZ (wat hw w2)) (mvT hZ (wat hw w3)) (mvT hZ (wat hw w4)) hy hK (g := mkF m pc L S) rfl (hsz.trans hml.symm) (argsL := argsL) (rest := S') (lenOf hpd hlen) hst (by show 2 * 0 + _ ≤ _; omega) (Jvm.hb hby hd) hpre
    exact ⟨v, vm₁, A, a1, a2, a3, a4⟩,
   fun Pre Po hK hpre => by
    obtain ⟨v, vm₁, A, a1, a2, a3, a4, a5, a6⟩ := callSS X hx hown (mvT hZ (wat hw w)) (mvT hZ (wat hw w2)) (mvT hZ (wat hw w3)) (mvT hZ (wat hw w4)) hy hK (g := mkF m pc L S) rfl (hsz.trans hml.symm) (argsL := argsL) (rest := S') (lenOf hpd hlen) hst (by show 2 * 0 + _ ≤ _; omega) (Jvm.hb hby hd) hpre
    exact ⟨v, vm₁, A, a1, a2, a3, a4, a5, fun u q => a6.trans q⟩⟩
theorem kInit {i i2 i4 ix mlz Wd : Nat} {z : MethodName} {Bz : ByteArray} {argsL S' : List Value} {a : Addr} {ps : List FieldType} {rz : Option FieldType} (hd : decode B pc = .ok (.invokespecial ix, 3)) (hz : z.name = "<init>") (w : tables_1[i]? = some (.methodLink y.cls ix z)) (w2 : tables_1[i2]? = some (.instanceMethod z)) (w4 : tables_1[i4]? = some (.code z Bz mlz none))
    (hy : z.cls ≠ "java/lang/invoke/MethodHandle" ∧ z.cls ≠ "java/lang/invoke/VarHandle") (hsz : L.size = ml) (hpd : parseMethodDescriptor z.desc = some ⟨ps, rz⟩) (hlen : argsL.length = ps.length) (hst : S = argsL.reverse ++ .ref a :: S') (hW : (S'.map fun v => v.category).sum ≤ Wd) : Kd l Z a0 y B ml R h ce sl pc L S z 3 Wd (.ref a :: argsL).toArray S' :=
  fun p e s m args below meth c T locs hx hby hown hZ hw hT hml X =>
  ⟨fun Pre Po hK hpre => by
    obtain ⟨v, vm₁, A, a1, a2, a3, a4⟩ := X.specialBack hx hz hown (mvT hZ (wat hw w)) (mvT hZ (wat hw w2)) (mvT hZ (wat hw w4)) hy hK (g := mkF m pc L S) rfl (hsz.trans hml.symm) (Steps.refl _) (a := a) (argsL := argsL) (rest := S') (lenOf hpd hlen) hst (by show 2 * 0 + _ ≤ _; omega) (Jvm.hb hby hd) hpre
    exact ⟨v, vm₁, A, a1, a2, a3, fun u q => a4.trans q⟩,
   fun Pre Po hK hpre => by
    obtain ⟨v, vm₁, A, a1, a2, a3, a4, a5, a6⟩ := X.specialBackS hx hz hown (mvT hZ (wat hw w)) (mvT hZ (wat hw w2)) (mvT hZ (wat hw w4)) hy hK (g := mkF m pc L S) rfl (hsz.trans hml.symm) (Steps.refl _) (a := a) (argsL := argsL) (rest := S') (lenOf hpd hlen) hst (by show 2 * 0 + _ ≤ _; omega) (Jvm.hb hby hd) hpre
    exact ⟨v, vm₁, A, a1, a2, a3, a4, a5, fun u q => a6.trans q⟩⟩
theorem kVirt {i i2 i3 i4 ix Wd : Nat} {z : MethodName} {C : String} {argsL S' : List Value} {a : Addr} {ps : List FieldType} {rz : Option FieldType} (hd : decode B pc = .ok (.invokevirtual ix, 3)) (w : tables_1[i]? = some (.methodLink y.cls ix z)) (w2 : tables_1[i2]? = some (.declares z)) (w3 : tables_1[i3]? = some (.selects C z z)) (w4 : tables_1[i4]? = some (.instanceMethod z)) (E : Exa Z h a C)
    (hy : z.cls ≠ "java/lang/invoke/MethodHandle" ∧ z.cls ≠ "java/lang/invoke/VarHandle") (hsz : L.size = ml) (hpd : parseMethodDescriptor z.desc = some ⟨ps, rz⟩) (hlen : argsL.length = ps.length) (hst : S = argsL.reverse ++ .ref a :: S') (hW : (S'.map fun v => v.category).sum ≤ Wd) : Kd l Z a0 y B ml R h ce sl pc L S z 3 Wd (.ref a :: argsL).toArray S' :=
  fun p e s m args below meth c T locs hx hby hown hZ hw hT hml X => by
  obtain ⟨cB, kB, q1, q2, q3⟩ := isOf (s := s) (T := T) hZ hT E
  refine ⟨fun Pre Po hK hpre => ?_, fun Pre Po hK hpre => ?_⟩
  · obtain ⟨v, vm₁, A, a1, a2, a3, a4⟩ := X.virtualBack hx hown (mvT hZ (wat hw w)) (mvT hZ (wat hw w2)) (notFace_of_selects (args := #[]) (mvT hZ (wat hw w3))) (mvT hZ (wat hw w3)) (mvT hZ (wat hw w4)) hy hK q1 q3 (g := mkF m pc L S) rfl (hsz.trans hml.symm) (Steps.refl _) (argsL := argsL) (rest := S') (lenOf hpd hlen) hst (by show 2 * 0 + _ ≤ _; omega) (Jvm.hb hby hd) hpre
    exact ⟨v, vm₁, A, a1, a2, a3, fun u q => a4.trans q⟩
  · obtain ⟨v, vm₁, A, a1, a2, a3, a4, a5, a6⟩ := X.virtualBackS hx hown (mvT hZ (wat hw w)) (mvT hZ (wat hw w2)) (notFace_of_selects (args := #[]) (mvT hZ (wat hw w3))) (mvT hZ (wat hw w3)) (mvT hZ (wat hw w4)) hy hK q1 q3 (g := mkF m pc L S) rfl (hsz.trans hml.symm) (Steps.refl _) (argsL := argsL) (rest := S') (lenOf hpd hlen) hst (by show 2 * 0 + _ ≤ _; omega) (Jvm.hb hby hd) hpre
    exact ⟨v, vm₁, A, a1, a2, a3, a4, a5, fun u q => a6.trans q⟩
theorem nilBk {vm : Vm} {x : Addr} : Safe Z [] vm h x := fun ⟨_, q, _⟩ => nomatch q
theorem nilCHv {vm : Vm} : CHv Z [] vm h := fun _ q => nomatch q
theorem nilCHr {vm vm1 : Vm} {h' : Heap} (q : h.size ≤ h'.size) : CHr Z [] vm h vm1 h' := ⟨nilCHv, q, fun _ ⟨_, r, _⟩ => nomatch r⟩
/-- a callee by its contract, as the library's calls take it -/
theorem Met.backS {p : Program} {e : Env} {below : List Frame} {s : State} {args : Array Value} {vm : Vm} {z : MethodName} {Bz : ByteArray} {mlz len Wd : Nat} {retz : Option FieldType} {Rz : Room} {as' : Array Value} {fs' : List Addr} {Pz : Option Value → Heap → Prop}
    (M : Met l nw Z EL n0 z Bz mlz retz Rz [] as' fs' h Pz) (hZ : Z.Warmed39 vm) (wc : (Jvm.Cond.code z Bz mlz retz).before a0 Z = true) (wz : (Jvm.Cond.initialized z.cls).before a0 Z = true) (hf : Rz.frames + 1 ≤ R.frames) (hl : Wd + (mlz + 11) + Rz.locals ≤ R.locals) (hEL : EW Z a0 EL) (H : CHv Z EL vm h) (hO : Old Z n0 h) (hF : ∀ x ∈ fs', n0 ≤ x ∧ x < h.size ∧ Safe Z EL vm h x) :
    BackS l R p e below (s.setVm vm) args z len Wd (fun A a => a = as' ∧ A.U.heap = h ∧ A.cells + Rz.cells ≤ R.cells ∧ A.slots + Rz.slots ≤ R.slots)
      (fun A _ v A' => ∃ Lo, (Pz v A'.U.heap ∧ Fr n0 Lo ∧ Old Z n0 A'.U.heap) ∧ A'.locs = A.locs ++ Lo ∧ A'.cells = A.cells + Rz.cells ∧ A'.slots = A.slots + Rz.slots ∧ CHr Z EL vm h A'.U.vm A'.U.heap) :=
  BackS.of_freeW (bytes := Bz) (maxL := mlz) (ret := retz) (E := fun _ first o t Lo k n => k = Rz.cells ∧ n = Rz.slots ∧ (∃ v, o = .returned v ∧ Pz v t.heap ∧ Fr n0 Lo ∧ Old Z n0 t.heap) ∧ CHr Z EL first.vm first.heap t.vm t.heap) M hf hl
    (fun m meth c A a Y hp => have hU : Z.Warmed39 A.U.vm := wtrans (s := s.setVm vm) hZ Y.warmed
      ⟨by show (Cond.and _ .tt).before a A.U = true; rw [Cond.before_and, mv hU wc]; rfl, mv hU wc, mv hU wz, hp.2.2.1, hp.2.2.2⟩)
    (fun m meth c A a g mk Y hp => ⟨hp.1, wtrans (s := s.setVm vm) hZ Y.warmed, hp.2.1, (CHv.at Y hZ hEL H).1, hO, fun x q => ⟨(hF x q).1, (hF x q).2.1, (CHv.at Y hZ hEL H).safe (hF x q).2.1 (hF x q).2.2⟩⟩) (fun _ _ _ _ _ _ _ _ _ => trivial)
    (fun _ _ _ _ ⟨v, Lo, h1, h2, h3, h4, _⟩ => ⟨Lo, _, _, h4, rfl, rfl, ⟨v, h1, h2⟩, h3⟩)
    (fun m meth c A a g mk v t Lo k n Y hp _ _ ⟨e1, e2, ⟨v', e3, e4⟩, e5⟩ => by
      cases e3; subst e1 e2
      refine ⟨Lo, e4, rfl, rfl, rfl, (CHv.at Y hZ hEL H).trans ?_⟩
      rw [← hp.2.1]; exact e5)
theorem call {i i2 : Nat} {z : MethodName} {Bz : ByteArray} {mlz len Wd : Nat} {retz : Option FieldType} {Rz : Room} {as' : Array Value} {fs' : List Addr} {Pz : Option Value → Heap → Prop} {S' : List Value} (kd : Kd l Z a0 y B ml R h ce sl pc L S z len Wd as' S') (M : Met l nw Z EL n0 z Bz mlz retz Rz [] as' fs' h Pz) (wc : tables_1[i]? = some (.code z Bz mlz retz)) (wz : tables_1[i2]? = some (.initialized z.cls))
    (hfs : ∀ x ∈ fs', x ∈ fs) (hf : Rz.frames + 1 ≤ R.frames) (hl : Wd + (mlz + 11) + Rz.locals ≤ R.locals) (hc : ce + Rz.cells ≤ R.cells) (hs : sl + Rz.slots ≤ R.slots) (hp : pc + len = pc')
    (K : ∀ v h', Pz v h' → h.size ≤ h'.size → Wq l nw Z EL a0 n0 y B ml ret R h0 Post fs h' (ce + Rz.cells) (sl + Rz.slots) pc' L (v.toList ++ S')) : Wq l nw Z EL a0 n0 y B ml ret R h0 Post fs h ce sl pc L S := fun p e s m args below meth c T locs vm k C => by
  obtain ⟨⟨hx, hby, hml, hret, hlk, hnm, hown, hh0⟩, ⟨hZ, hw, hEL, hnw⟩, X, hT, ⟨hN, hO⟩, ⟨hS, hk⟩, hC, hF⟩ := C
  subst hp
  cases hq : nw with
  | true =>
    obtain ⟨q1, rfl⟩ := hnw hq
    have M' : MetFree l z (head1 [Jvm.Cond.code z Bz mlz retz] Rz) (fun a U => a = as' ∧ Z.Warmed39 U.vm ∧ U.heap = h) (fun _ _ _ _ _ => True) (fun _ U o U' => ∃ v Lo, o = .returned v ∧ (Pz v U'.heap ∧ Fr n0 Lo ∧ Old Z n0 U'.heap ∧ h.size ≤ U'.heap.size) ∧ FrameEnd U o U' Lo Rz.cells Rz.slots) :=
      MetFree.mono M (fun a U q => ⟨q.1, q.2.1, q.2.2, nilCHv, hO, fun x r => ⟨(hF x (hfs x r)).1, (hF x (hfs x r)).2.1, nilBk⟩⟩) (fun _ _ _ _ _ q => q) (fun a U o U' hP ⟨v, Lo, h1, h2, h3, h4, h5⟩ => ⟨v, Lo, h1, ⟨h2.1, h2.2.1, h2.2.2, by have := h3.2.1; rw [hP.2.2] at this; exact this⟩, ⟨v, h1⟩, h5 hq, h4.2.2.2⟩)
    obtain ⟨v, vm₁, ⟨T', L', c', n'⟩, -, X', ⟨Lo, ⟨hP, hN', hO', hsz⟩, l1, l2, l3⟩, st⟩ := (kd p e (s.setVm vm) m args below meth c T locs hx hby hown hZ hw hT hml X).1 _ _ (backOf (W := Wd) (s := s.setVm vm) (Q := fun v h' Lo => Pz v h' ∧ Fr n0 Lo ∧ Old Z n0 h' ∧ h.size ≤ h'.size) M' hZ (wat hw wc) (wat hw wz) hf hl) (fun vm₁ _ => ⟨rfl, hT, hc, hs⟩)
    dsimp only [Pt.U, Pt.locs, Pt.cells, Pt.slots] at X' hP hO' hsz l1 l2 l3 st
    subst l1 l2 l3
    have := K v T'.heap hP hsz p e s m args below meth c T' _ vm k ⟨⟨hx, hby, hml, hret, hlk, hnm, hown, hh0⟩, ⟨hZ, hw, hEL, hnw⟩, X', rfl, ⟨hN.app hN', hO'⟩, ⟨hS, Nat.le_trans hk hsz⟩, nilCHr (Nat.le_trans hC.2.1 hsz), fun x r => ⟨(hF x r).1, Nat.lt_of_lt_of_le (hF x r).2.1 hsz, nilBk⟩⟩
    rw [hq] at this
    exact this.st st
  | false =>
    obtain ⟨v, vm₁, ⟨T', L', c', n'⟩, -, X', hS', hsz, ⟨Lo, ⟨hP, hN', hO'⟩, l1, l2, l3, hC'⟩, st⟩ := (kd p e (s.setVm vm) m args below meth c T locs hx hby hown hZ hw hT hml X).2 _ _ (Met.backS (R := R) (Wd := Wd) (a0 := a0) M hZ (wat hw wc) (wat hw wz) hf hl hEL hC.1 hO (fun x r => hF x (hfs x r))) (fun vm₁ _ => ⟨rfl, hT, hc, hs⟩)
    dsimp only [Pt.U, Pt.locs, Pt.cells, Pt.slots] at X' hP hO' hS' hsz l1 l2 l3 hC' st
    subst l1 l2 l3
    have hsz' : h.size ≤ T'.heap.size := by rw [← hT]; exact hsz
    have hW2 : (s.setVm vm).Warmed39 T'.vm := hS'.1
    have hZ' : Z.Warmed39 T'.vm := State.Warmed39.trans (t := s.setVm vm) hZ hW2
    have := K v T'.heap hP hsz' p e s m args below meth c T' _ T'.vm T'.heap.size ⟨⟨hx, hby, hml, hret, hlk, hnm, by rw [hW2.alike.findClass]; exact hown, hh0⟩, ⟨hZ', hw, hEL, fun q => by rw [hq] at q; cases q⟩, X', rfl, ⟨hN.app hN', hO'⟩, ⟨hS.trans hS' (Nat.le_trans hk hsz'), Nat.le_refl _⟩, hC.trans hC', fun x r => ⟨(hF x r).1, Nat.lt_of_lt_of_le (hF x r).2.1 hsz', hC'.safe (hF x r).2.1 (hF x r).2.2⟩⟩
    rw [hq] at this
    exact this.st st
/-- a callee by a law of the library's (or pasted) shape -/
theorem callB {z : MethodName} {len Wd kc ks : Nat} {as' : Array Value} {Qb : Option Value → Heap → List Loc → Prop} {S' : List Value} {ws : List Addr} (kd : Kd l Z a0 y B ml R h ce sl pc L S z len Wd as' S')
    (hK : ∀ {p : Program} {e : Env} {below : List Frame} {s : State} {args : Array Value}, Z.Warmed39 s.vm → (∀ d ∈ tables_1, d.before a0 Z = true) → Back l R p e below s args z len Wd (fun A a => a = as' ∧ A.U.heap = h ∧ A.cells + kc ≤ R.cells ∧ A.slots + ks ≤ R.slots) (fun A _ v A' => ∃ Lo, Qb v A'.U.heap Lo ∧ A'.locs = A.locs ++ Lo ∧ A'.cells = A.cells + kc ∧ A'.slots = A.slots + ks))
    (hws : ∀ x ∈ ws, x ∈ fs) (hQ : ∀ v h' Lo, Qb v h' Lo → Fr n0 Lo ∧ Keep h h' ws) (hc : ce + kc ≤ R.cells) (hs : sl + ks ≤ R.slots) (hp : pc + len = pc')
    (K : ∀ v h' Lo, Qb v h' Lo → Wq l nw Z EL a0 n0 y B ml ret R h0 Post fs h' (ce + kc) (sl + ks) pc' L (v.toList ++ S')) : Wq l nw Z EL a0 n0 y B ml ret R h0 Post fs h ce sl pc L S := fun p e s m args below meth c T locs vm k C => by
  obtain ⟨⟨hx, hby, hml, hret, hlk, hnm, hown, hh0⟩, ⟨hZ, hw, hEL, hnw⟩, X, hT, ⟨hN, hO⟩, ⟨hS, hk⟩, hC, hF⟩ := C
  subst hp
  obtain ⟨v, vm₁, ⟨T', L', c', n'⟩, -, X', ⟨Lo, hP, l1, l2, l3⟩, st⟩ := (kd p e (s.setVm vm) m args below meth c T locs hx hby hown hZ hw hT hml X).1 _ _ (hK (s := s.setVm vm) hZ hw) (fun vm₁ _ => ⟨rfl, hT, hc, hs⟩)
  dsimp only [Pt.U, Pt.locs, Pt.cells, Pt.slots] at X' hP l1 l2 l3 st
  subst l1 l2 l3
  obtain ⟨hN', hKp⟩ := hQ v _ Lo hP
  have hsf : ∀ x ∈ ws, Safe Z EL vm h x := fun x r => (hF x (hws x r)).2.2
  exact (K v T'.heap Lo hP p e s m args below meth c T' _ vm k ⟨⟨hx, hby, hml, hret, hlk, hnm, hown, hh0⟩, ⟨hZ, hw, hEL, hnw⟩, X', rfl, ⟨hN.app hN', hO.keep hKp (fun x r => (hF x (hws x r)).1)⟩, ⟨hS, Nat.le_trans hk hKp.1⟩, hC.trans (CHr.keep hKp hsf hC.1), fun x r => ⟨(hF x r).1, Nat.lt_of_lt_of_le (hF x r).2.1 hKp.1, Safe.keep hKp hsf hC.1 (hF x r).2.2⟩⟩).st st
end Calls
end Ow
end Jvm.Pilot.@@N@@
namespace Jvm.Pilot.@@N@@
open Jvm Jvm.ClassFile Sem Op Lib Jvm.Free Jvm.Stand Jvm.LawKit Jvm.RoadKit Bundle Jvm.Pilot.@@N@@.Jvm.D
namespace Ow
section More
variable {l : Launch} {nw : Bool} {Z : State} {EL : List (String × Nat)} {a0 : Array Value} {n0 : Nat} {y : MethodName} {B : ByteArray} {ml : Nat} {ret : Option FieldType} {R : Room} {h0 : Heap} {Post : Option Value → Heap → Prop} {fs : List Addr} {h : Heap} {ce sl pc pc' : Nat} {L : Array Slot} {S : List Value}
/-- System.arraycopy between two arrays of one primitive type -/
theorem copyArr {i1 i2 i3 i4 ix Wd : Nat} {a b : Addr} {kc k' : ClassId} {ty : FieldType} {z z' sp dp nn : Int32} {vs vd : List Value} {dv dd : Value} (hd : decode B pc = .ok (.invokestatic ix, 3)) (w1 : tables_1[i1]? = some (.methodLink y.cls ix Jvm.Stand.acN)) (w2 : tables_1[i2]? = some (.native Jvm.Stand.acN)) (w3 : tables_1[i3]? = some (.static Jvm.Stand.acN)) (w4 : tables_1[i4]? = some (.initialized "java/lang/System"))
    (A : Arv Z h a kc ty z vs dv) (A' : Arv Z h b k' ty z' vd dd) (hty : refKind ty = false) (h1 : ¬ sp < 0) (h2 : ¬ dp < 0) (h3 : ¬ nn < 0) (h4 : sp.toNatClampNeg + nn.toNatClampNeg ≤ z.toNatClampNeg) (h5 : dp.toNatClampNeg + nn.toNatClampNeg ≤ z'.toNatClampNeg) (hl : dp.toNatClampNeg + nn.toNatClampNeg ≤ vd.length) (hb : b ∈ fs)
    (hsz : L.size = ml) (hfr : 1 ≤ R.frames) (hW : (S.map fun v => v.category).sum ≤ Wd) (hlo : Wd + (nativeFrameWords "java/lang/System" "arraycopy" 5 + 11) ≤ R.locals) (hp : pc + 3 = pc')
    (K : ∀ h', Keep h h' [b] → Arv Z h' b k' ty z' (vd.take dp.toNatClampNeg ++ (List.range nn.toNatClampNeg).map (fun i => vs.getD (sp.toNatClampNeg + i) dv) ++ vd.drop (dp.toNatClampNeg + nn.toNatClampNeg)) dd → Wq l nw Z EL a0 n0 y B ml ret R h0 Post fs h' ce sl pc' L S) :
    Wq l nw Z EL a0 n0 y B ml ret R h0 Post fs h ce sl pc L (.int nn :: .int dp :: .ref b :: .int sp :: .ref a :: S) := fun p e s m args below meth c T locs vm k C => by
  obtain ⟨⟨hx, hby, hml, hret, hlk, hnm, hown, hh0⟩, ⟨hZ, hw, hEL, hnw⟩, X, hT, ⟨hN, hO⟩, ⟨hS, hk⟩, hC, hF⟩ := C
  subst hp
  obtain ⟨T', h', Lo, X', e', N', hKp, AA, st⟩ := cpA X hx hZ hown (wat hw w1) (wat hw w2) (wat hw w3) (wat hw w4) hT A A' (Or.inl ⟨rfl, hty⟩) h1 h2 h3 h4 h5 rfl hl hN (hF b hb).1 (g := mkF m pc L (.int nn :: .int dp :: .ref b :: .int sp :: .ref a :: S)) rfl (hsz.trans hml.symm) rfl (Jvm.hb hby hd) hfr (W := Wd) (by show 2 * 0 + _ ≤ _; omega) hlo
  have hsf : ∀ x ∈ [b], Safe Z EL vm h x := fun x r => by cases List.mem_singleton.mp r; exact (hF b hb).2.2
  have hge : ∀ x ∈ [b], n0 ≤ x := fun x r => by cases List.mem_singleton.mp r; exact (hF b hb).1
  exact (K h' hKp AA p e s m args below meth c T' _ vm k ⟨⟨hx, hby, hml, hret, hlk, hnm, hown, hh0⟩, ⟨hZ, hw, hEL, hnw⟩, X', e', ⟨N', hO.keep hKp hge⟩, ⟨hS, Nat.le_trans hk hKp.1⟩, hC.trans (CHr.keep hKp hsf hC.1), fun x r => ⟨(hF x r).1, Nat.lt_of_lt_of_le (hF x r).2.1 hKp.1, Safe.keep hKp hsf hC.1 (hF x r).2.2⟩⟩).st st
/-- invokevirtual of a private method; z2: another method of the class, whose 'selects' word says that the class is no interface -/
theorem kPriv {i i2 i3 i4 i5 ix mlz Wd : Nat} {z z2 : MethodName} {Bz : ByteArray} {retz : Option FieldType} {C D : String} {argsL S' : List Value} {a : Addr} {ps : List FieldType} {rz : Option FieldType} (hd : decode B pc = .ok (.invokevirtual ix, 3)) (w : tables_1[i]? = some (.methodLink y.cls ix z)) (w2 : tables_1[i2]? = some (.instanceMethod z)) (w3 : tables_1[i3]? = some (.selects C z2 z2)) (w4 : tables_1[i4]? = some (.code z Bz mlz retz)) (w5 : tables_1[i5]? = some (.privateMethod z)) (hcl : z2.cls = z.cls) (E : Exa Z h a D)
    (hy : z.cls ≠ "java/lang/invoke/MethodHandle" ∧ z.cls ≠ "java/lang/invoke/VarHandle") (hsz : L.size = ml) (hpd : parseMethodDescriptor z.desc = some ⟨ps, rz⟩) (hlen : argsL.length = ps.length) (hst : S = argsL.reverse ++ .ref a :: S') (hW : (S'.map fun v => v.category).sum ≤ Wd) : Kd l Z a0 y B ml R h ce sl pc L S z 3 Wd (.ref a :: argsL).toArray S' :=
  fun p e s m args below meth c T locs hx hby hown hZ hw hT hml X => by
  obtain ⟨cB, kB, q1, q2, cell, q3, -, q4⟩ := isOf (s := s) (T := T) hZ hT E
  have hobj : ∀ q, cell.vm ≠ .statics q := fun q r => by rw [r] at q4; cases q4
  have hpr := Cond.privateMethod_at (mvT (args := args) hZ (wat hw w5))
  have hin := mvT (args := args) hZ (wat hw w2)
  obtain ⟨c2, r2, m2, -, -, p3, -, kP, hkP, hkPi⟩ := Cond.selects_spec (mvT (args := args) hZ (wat hw w3))
  have hsel := Jvm.Stand.selects_self_of_private (args := args) (by rw [← hcl]; exact findClass_of_methodNamed p3) hkP hkPi hpr hin hy
  refine ⟨fun Pre Po hK hpre => ?_, fun Pre Po hK hpre => ?_⟩
  · obtain ⟨v, vm₁, A, a1, a2, a3, a4⟩ := X.privateBack hx hown (mvT hZ (wat hw w)) hin hsel hpr (mvT hZ (wat hw w4)) hy hK (g := mkF m pc L S) rfl (hsz.trans hml.symm) (Steps.refl _) q3 hobj (argsL := argsL) (rest := S') (lenOf hpd hlen) hst (by show 2 * 0 + _ ≤ _; omega) (Jvm.hb hby hd) hpre
    exact ⟨v, vm₁, A, a1, a2, a3, fun u q => a4.trans q⟩
  · obtain ⟨v, vm₁, A, a1, a2, a3, a4, a5, a6⟩ := X.privateBackS hx hown (mvT hZ (wat hw w)) hin hsel hpr (mvT hZ (wat hw w4)) hy hK (g := mkF m pc L S) rfl (hsz.trans hml.symm) (Steps.refl _) q3 hobj (argsL := argsL) (rest := S') (lenOf hpd hlen) hst (by show 2 * 0 + _ ≤ _; omega) (Jvm.hb hby hd) hpre
    exact ⟨v, vm₁, A, a1, a2, a3, a4, a5, fun u q => a6.trans q⟩
/-- invokeinterface -/
theorem kIface {i i2 i3 i4 i5 i6 i7 i8 ix ct Wd : Nat} {xi z : MethodName} {C : String} {argsL S' : List Value} {a : Addr} {ps : List FieldType} {rz : Option FieldType} (hd : decode B pc = .ok (.invokeinterface ix ct, 5)) (w : tables_1[i]? = some (.methodLink y.cls ix xi)) (w2 : tables_1[i2]? = some (.declares xi)) (w3 : tables_1[i3]? = some (.interfaceMethod xi.cls xi.cls xi.name xi.desc)) (w4 : tables_1[i4]? = some (.selects C xi z)) (w5 : tables_1[i5]? = some (.instanceMethod z)) (w6 : tables_1[i6]? = some (.publicMethod z)) (w7 : tables_1[i7]? = some (.unhidden C xi.name xi.desc)) (w8 : tables_1[i8]? = some (.castable C xi.cls)) (E : Exa Z h a C)
    (hy : xi.cls ≠ "java/lang/invoke/MethodHandle" ∧ xi.cls ≠ "java/lang/invoke/VarHandle") (hsz : L.size = ml) (hpd : parseMethodDescriptor xi.desc = some ⟨ps, rz⟩) (hlen : argsL.length = ps.length) (hst : S = argsL.reverse ++ .ref a :: S') (hW : (S'.map fun v => v.category).sum ≤ Wd) : Kd l Z a0 y B ml R h ce sl pc L S z 5 Wd (.ref a :: argsL).toArray S' :=
  fun p e s m args below meth c T locs hx hby hown hZ hw hT hml X => by
  obtain ⟨cB, kB, q1, q2, q3⟩ := isOf (s := s) (T := T) hZ hT E
  refine ⟨fun Pre Po hK hpre => ?_, fun Pre Po hK hpre => ?_⟩
  · obtain ⟨v, vm₁, A, a1, a2, a3, a4⟩ := X.interfaceBack hx hown (mvT hZ (wat hw w)) (mvT hZ (wat hw w2)) (mvT hZ (wat hw w3) (by simp [Cond.onTables, Cond.keepsFace, Cond.keeps, Cond.steady, Cond.faceAtom, hy.1, hy.2])) (mvT hZ (wat hw w4)) (mvT hZ (wat hw w5)) (mvT hZ (wat hw w6)) (mvT hZ (wat hw w7)) (mvT hZ (wat hw w8)) hy hK q1 q2 q3 (g := mkF m pc L S) rfl (hsz.trans hml.symm) (Steps.refl _) (argsL := argsL) (rest := S') (lenOf hpd hlen) hst (by show 2 * 0 + _ ≤ _; omega) (Jvm.hb hby hd) hpre
    exact ⟨v, vm₁, A, a1, a2, a3, fun u q => a4.trans q⟩
  · obtain ⟨v, vm₁, A, a1, a2, a3, a4, a5, a6⟩ := X.interfaceBackS hx hown (mvT hZ (wat hw w)) (mvT hZ (wat hw w2)) (mvT hZ (wat hw w3) (by simp [Cond.onTables, Cond.keepsFace, Cond.keeps, Cond.steady, Cond.faceAtom, hy.1, hy.2])) (mvT hZ (wat hw w4)) (mvT hZ (wat hw w5)) (mvT hZ (wat hw w6)) (mvT hZ (wat hw w7)) (mvT hZ (wat hw w8)) hy hK q1 q2 q3 (g := mkF m pc L S) rfl (hsz.trans hml.symm) (Steps.refl _) (argsL := argsL) (rest := S') (lenOf hpd hlen) hst (by show 2 * 0 + _ ≤ _; omega) (Jvm.hb hby hd) hpre
    exact ⟨v, vm₁, A, a1, a2, a3, a4, a5, fun u q => a6.trans q⟩
/-- an object that a callee made is one of ours (no literals about) -/
theorem adopt {b : Addr} (hE : EL = []) (hb : n0 ≤ b) (hl : b < h.size) (K : Wq l nw Z EL a0 n0 y B ml ret R h0 Post (b :: fs) h ce sl pc L S) : Wq l nw Z EL a0 n0 y B ml ret R h0 Post fs h ce sl pc L S := fun p e s m args below meth c T locs vm k C => by
  subst hE
  obtain ⟨c1, c2, c3, c4, c5, c6, c7, hF⟩ := C
  exact K p e s m args below meth c T locs vm k ⟨c1, c2, c3, c4, c5, c6, c7, fun x q => (List.mem_cons.mp q).elim (fun r => r ▸ ⟨hb, hl, nilBk⟩) (hF x)⟩
end More
end Ow
end Jvm.Pilot.@@N@@
namespace Jvm.Pilot.@@N@@
open Jvm Jvm.ClassFile Sem Op Lib Jvm.Free Jvm.Stand Jvm.LawKit Jvm.RoadKit Bundle Jvm.Pilot.@@N@@.Jvm.D
namespace Ow
section Super
variable {l : Launch} {nw : Bool} {Z : State} {EL : List (String × Nat)} {a0 : Array Value} {n0 : Nat} {y : MethodName} {B : ByteArray} {ml : Nat} {ret : Option FieldType} {R : Room} {h0 : Heap} {Post : Option Value → Heap → Prop} {fs : List Addr} {h : Heap} {ce sl pc pc' : Nat} {L : Array Slot} {S : List Value}
theorem same_of {z z2 : MethodName} {C : String} (w1 : (Cond.instanceMethod z).before a0 Z = true) (w2 : (Cond.selects C z2 z2).before a0 Z = true) (hcl : z2.cls = z.cls) (hy : z.cls ≠ "java/lang/invoke/MethodHandle" ∧ z.cls ≠ "java/lang/invoke/VarHandle") : (Cond.sameMethod z.cls z.cls z.name z.desc).before a0 Z = true := by
  obtain ⟨mk, methM, hnamed, hmethM, -, -⟩ := Cond.instanceMethod_spec w1
  have hf := State.methodFound?_of_named hnamed hy
  have hc := findClass_of_methodNamed hnamed
  obtain ⟨c2, r2, m2, -, -, p3, -, kP, hkP, hkPi⟩ := Cond.selects_spec w2
  have hc2 := findClass_of_methodNamed p3
  rw [hcl, hc] at hc2
  have hn' : Z.methodNamed? ⟨z.cls, z.name, z.desc⟩ = some mk := hnamed
  rw [← Option.some.inj hc2] at hkP
  simp [Cond.before, Cond.holds, Cond.value, hc, hf, hn', hkP, hkPi]
/-- invokespecial of a superclass's method -/
theorem kSuper {i i2 i3 i4 i5 ix mlz Wd : Nat} {z z2 : MethodName} {Bz : ByteArray} {retz : Option FieldType} {C D : String} {argsL S' : List Value} {a : Addr} {ps : List FieldType} {rz : Option FieldType} (hd : decode B pc = .ok (.invokespecial ix, 3)) (w : tables_1[i]? = some (.methodLink y.cls ix z)) (w2 : tables_1[i2]? = some (.instanceMethod z)) (w3 : tables_1[i3]? = some (.selects C z2 z2)) (w4 : tables_1[i4]? = some (.code z Bz mlz retz)) (w5 : tables_1[i5]? = some (.superclass y.cls z.cls)) (hcl : z2.cls = z.cls) (hn : z.name ≠ "<init>") (E : Ins Z h a D true)
    (hy : z.cls ≠ "java/lang/invoke/MethodHandle" ∧ z.cls ≠ "java/lang/invoke/VarHandle") (hsz : L.size = ml) (hpd : parseMethodDescriptor z.desc = some ⟨ps, rz⟩) (hlen : argsL.length = ps.length) (hst : S = argsL.reverse ++ .ref a :: S') (hW : (S'.map fun v => v.category).sum ≤ Wd) : Kd l Z a0 y B ml R h ce sl pc L S z 3 Wd (.ref a :: argsL).toArray S' :=
  fun p e s m args below meth c T locs hx hby hown hZ hw hT hml X => by
  have hs := same_of (wat hw w2) (wat hw w3) hcl hy
  refine ⟨fun Pre Po hK hpre => ?_, fun Pre Po hK hpre => ?_⟩
  · obtain ⟨v, vm₁, A, a1, a2, a3, a4⟩ := superBack X hx hZ hown (wat hw w) hs (wat hw w2) (wat hw w5) hn hK hT E (g := mkF m pc L S) rfl (hsz.trans hml.symm) (wat hw w4) (argsL := argsL) (rest := S') (lenOf hpd hlen) hst (by show 2 * 0 + _ ≤ _; omega) (Jvm.hb hby hd) hpre
    exact ⟨v, vm₁, A, a1, a2, a3, fun u q => a4.trans q⟩
  · obtain ⟨v, vm₁, A, a1, a2, a3, a4, a5, a6⟩ := superBackS X hx hZ hown (wat hw w) hs (wat hw w2) (wat hw w5) hn hK hT E (g := mkF m pc L S) rfl (hsz.trans hml.symm) (wat hw w4) (argsL := argsL) (rest := S') (lenOf hpd hlen) hst (by show 2 * 0 + _ ≤ _; omega) (Jvm.hb hby hd) hpre
    exact ⟨v, vm₁, A, a1, a2, a3, a4, a5, fun u q => a6.trans q⟩
/-- invokevirtual, the selected method another than the one that is named -/
theorem kVirt2 {i i2 i3 i4 i5 ix Wd : Nat} {zx z z2 : MethodName} {C D : String} {argsL S' : List Value} {a : Addr} {ps : List FieldType} {rz : Option FieldType} (hd : decode B pc = .ok (.invokevirtual ix, 3)) (w : tables_1[i]? = some (.methodLink y.cls ix zx)) (w2 : tables_1[i2]? = some (.declares zx)) (w3 : tables_1[i3]? = some (.selects C zx z)) (w4 : tables_1[i4]? = some (.instanceMethod z)) (w5 : tables_1[i5]? = some (.selects D z2 z2)) (hcl : z2.cls = zx.cls) (E : Exa Z h a C)
    (hy : zx.cls ≠ "java/lang/invoke/MethodHandle" ∧ zx.cls ≠ "java/lang/invoke/VarHandle") (hsz : L.size = ml) (hpd : parseMethodDescriptor zx.desc = some ⟨ps, rz⟩) (hlen : argsL.length = ps.length) (hst : S = argsL.reverse ++ .ref a :: S') (hW : (S'.map fun v => v.category).sum ≤ Wd) : Kd l Z a0 y B ml R h ce sl pc L S z 3 Wd (.ref a :: argsL).toArray S' :=
  fun p e s m args below meth c T locs hx hby hown hZ hw hT hml X => by
  obtain ⟨cB, kB, q1, q2, q3⟩ := isOf (s := s) (T := T) hZ hT E
  have nf : NotFace s zx := fun r0 hr => by
    obtain ⟨c2, r2, m2, -, -, p3, -, kP, hkP, hkPi⟩ := Cond.selects_spec (mvT (args := args) hZ (wat hw w5))
    have e1 := findClass_of_methodNamed p3
    have e2 := findClass_of_methodNamed hr
    rw [hcl, e2] at e1
    rw [← Option.some.inj e1] at hkP
    exact ⟨kP, hkP, hkPi⟩
  refine ⟨fun Pre Po hK hpre => ?_, fun Pre Po hK hpre => ?_⟩
  · obtain ⟨v, vm₁, A, a1, a2, a3, a4⟩ := X.virtualBack hx hown (mvT hZ (wat hw w)) (mvT hZ (wat hw w2)) nf (mvT hZ (wat hw w3)) (mvT hZ (wat hw w4)) hy hK q1 q3 (g := mkF m pc L S) rfl (hsz.trans hml.symm) (Steps.refl _) (argsL := argsL) (rest := S') (lenOf hpd hlen) hst (by show 2 * 0 + _ ≤ _; omega) (Jvm.hb hby hd) hpre
    exact ⟨v, vm₁, A, a1, a2, a3, fun u q => a4.trans q⟩
  · obtain ⟨v, vm₁, A, a1, a2, a3, a4, a5, a6⟩ := X.virtualBackS hx hown (mvT hZ (wat hw w)) (mvT hZ (wat hw w2)) nf (mvT hZ (wat hw w3)) (mvT hZ (wat hw w4)) hy hK q1 q3 (g := mkF m pc L S) rfl (hsz.trans hml.symm) (Steps.refl _) (argsL := argsL) (rest := S') (lenOf hpd hlen) hst (by show 2 * 0 + _ ≤ _; omega) (Jvm.hb hby hd) hpre
    exact ⟨v, vm₁, A, a1, a2, a3, a4, a5, fun u q => a6.trans q⟩
/-- a byte[] of our own making that is not empty is no literal's, where each literal of EL is "" -/
theorem adoptB {b : Addr} {kc : ClassId} {z : Int32} {vs : List Value} {dv : Value} (A : Arv Z h b kc .byte z vs dv) (hz : z.toNatClampNeg ≠ 0) (hE : ∀ p ∈ EL, (Cond.stringLink p.1 p.2 "").before a0 Z = true) (hb : n0 ≤ b) (K : Wq l nw Z EL a0 n0 y B ml ret R h0 Post (b :: fs) h ce sl pc L S) : Wq l nw Z EL a0 n0 y B ml ret R h0 Post fs h ce sl pc L S := fun p e s m args below meth c T locs vm k C => by
  obtain ⟨c1, ⟨hZ, c2⟩, c3, c4, c5, c6, c7, hF⟩ := C
  have hs : Safe Z EL vm h b := fun Bk' => by
    obtain ⟨cell, ⟨A1, A2, -⟩, -, hsz, -, -, -⟩ := A
    obtain ⟨-, kA, hkA, compA, hkindA⟩ := A2
    obtain ⟨kA', hkA', ekA⟩ := hZ.alike.2.2 _ _ hkA
    obtain ⟨p', hp', u, a, hbk, q, -, F, rfl | rfl⟩ := Bk'
    · cases (show h[q.sa]? = some q.sC from F.ha).symm.trans A1
      obtain ⟨cS, ⟨-, -, e⟩, ⟨kS, g1, g2, -⟩, -⟩ := F
      subst e
      cases (show vm.classes[q.sC.cls]? = some kS from g1).symm.trans hkA'
      rw [ekA] at g2
      have := hkindA.symm.trans g2
      cases this
    · cases (show h[q.sd]? = some q.SA from F.hd).symm.trans A1
      obtain ⟨cS, -, -, -, hby⟩ := F
      obtain ⟨c', k', cf, i, hc, hk, hcf, hp1, hp2, -⟩ := hbk
      obtain ⟨k2, cf2, i2, u2, hk2, hcf2, hq1, hq2, -, htx, -⟩ := Cond.stringLink_spec (args := a0) (s := Wst Z vm h) (show (Wst Z vm h).vm.findClass p'.1 = some c' from hc) (mvS (s := { Z with heap := h }) hZ (hE p' hp'))
      cases hk.symm.trans hk2
      cases hcf.symm.trans hcf2
      cases hp1.symm.trans hq1
      cases hp2.symm.trans hq2
      have hu := Jvm.ClassFile.units_of_text htx (by simp)
      have hu0 : u = #[] := by
        apply Array.toList_inj.mp
        rw [hu]; rfl
      rw [hby, hu0] at hsz
      exact hz (by rw [← hsz]; simp [stringBytes])
  exact K p e s m args below meth c T locs vm k ⟨c1, ⟨hZ, c2⟩, c3, c4, c5, c6, c7, fun x q => (List.mem_cons.mp q).elim (fun r => r ▸ ⟨hb, A.lt, hs⟩) (hF x)⟩
/-- newarray, with the array's class by its name -/
theorem newarrayE {i cap : Nat} {aty : ArrayType} {ty : FieldType} {z : Int32} {ad : String} (hd : decode B pc = .ok (.newarray aty, 2)) (hty : newarray.typeOf aty = ty) (w : tables_1[i]? = some (.arrayClass ty)) (hz : ¬ z < 0) (hcap : z.toNatClampNeg ≤ cap) (hb8 : cap * 8 ≤ 536870912) (hc : ce + 1 ≤ R.cells) (hs : sl + cap ≤ R.slots) (hp : pc + 2 = pc') (had : "[" ++ ty.toString = ad)
    (K : ∀ h' a kc, a = h.size → Ext h h' → Arv Z h' a kc ty z [] (defaultValue ty) → Exa Z h' a ad → Wq l nw Z EL a0 n0 y B ml ret R h0 Post (a :: fs) h' (ce + 1) (sl + cap) pc' L (.ref a :: S)) : Wq l nw Z EL a0 n0 y B ml ret R h0 Post fs h ce sl pc L (.int z :: S) :=
  grow (P := fun h' => ∃ kc, Arv Z h' h.size kc ty z [] (defaultValue ty) ∧ Exa Z h' h.size ad) (fun hx hby hown hZ hw hT _ X => by
    subst hp hty
    obtain ⟨T', h', kc, X', e', E, A, Ea, st⟩ := newPE X hx hZ (wat hw w) hT (g := mkF _ pc L (.int z :: S)) rfl (Jvm.hb hby hd) rfl hz hcap hb8 hc hs had
    exact ⟨T', h', X', e', E, ⟨kc, Arv.new A hz, Ea⟩, st⟩) (fs' := h.size :: fs) (fun x q => (List.mem_cons.mp q).symm) (fun h' _ q => q.elim fun kc r => r.1.lt) (fun h' E q => q.elim fun kc r => K h' _ kc rfl E r.1 r.2)
/-- an array that a callee made, no byte[], is one of ours -/
theorem adoptA {b : Addr} {kc : ClassId} {ty : FieldType} {z : Int32} {vs : List Value} {dv : Value} (A : Arv Z h b kc ty z vs dv) (ht : ty ≠ .byte) (hb : n0 ≤ b) (K : Wq l nw Z EL a0 n0 y B ml ret R h0 Post (b :: fs) h ce sl pc L S) : Wq l nw Z EL a0 n0 y B ml ret R h0 Post fs h ce sl pc L S := fun p e s m args below meth c T locs vm k C => by
  obtain ⟨c1, ⟨hZ, c2⟩, c3, c4, c5, c6, c7, hF⟩ := C
  have hs : Safe Z EL vm h b := by
    obtain ⟨cell, Ar, -⟩ := A
    exact Safe.arr hZ.alike Ar ht
  exact K p e s m args below meth c T locs vm k ⟨c1, ⟨hZ, c2⟩, c3, c4, c5, c6, c7, fun x q => (List.mem_cons.mp q).elim (fun r => r ▸ ⟨hb, A.lt, hs⟩) (hF x)⟩
end Super
end Ow
end Jvm.Pilot.@@N@@
namespace Jvm.Pilot.@@N@@
open Jvm Jvm.ClassFile Sem Op Lib Jvm.Free Jvm.Stand Jvm.LawKit Jvm.RoadKit Bundle Jvm.Pilot.@@N@@.Jvm.D
namespace Ow
abbrev ST : String := "java/lang/String"
/-- the sets: compact strings are on; the formatter is a reference -/
def Sets (Z : State) : Prop := ∃ (zc : Int32) (fm : Value), Sta Z Z.heap ST "COMPACT_STRINGS" "Z" (.int zc) ∧ ¬ zc = 0 ∧ Sta Z Z.heap "jdk/internal/util/Preconditions" "SIOOBE_FORMATTER" "Ljava/util/function/BiFunction;" fm ∧ fm.isRef = true
abbrev lat (cs : List Int32) : List Value := (cs.map fun c => c.toInt8.toInt32).map Value.int
/-- a String of the chars cs, each 0 to 255 -/
def Str (Z : State) (h : Heap) (a : Addr) (cs : List Int32) : Prop := Exa Z h a ST ∧ Fld Z h a ST "coder" "B" (.int 0) ∧ (∃ (t : Addr) (kb : ClassId), Fld Z h a ST "value" "[B" (.ref t) ∧ Arv Z h t kb .byte (Int32.ofNat cs.length) (lat cs) (.int 0)) ∧ (∀ c ∈ cs, ¬ c < 0 ∧ ¬ (255 : Int32) < c) ∧ cs.length ≤ 4000
section StrFacts
variable {Z : State} {h h' : Heap} {a x : Addr} {cs : List Int32} {C : String} {a0 : Array Value} {k : Nat}
theorem Str.exa (F : Str Z h a cs) : Exa Z h a ST := F.1
theorem Str.lt (F : Str Z h a cs) : a < h.size := F.1.lt
theorem Str.ext (F : Str Z h a cs) (E : Ext h h') : Str Z h' a cs := by
  obtain ⟨e, c, ⟨t, kb, v, ar⟩, r⟩ := F
  exact ⟨e.ext E, c.ext E, ⟨t, kb, v.ext E, ar.ext E⟩, r⟩
theorem Str.keep1 (F : Str Z h a cs) (K : Keep h h' [x]) (ne : a ≠ x) (E : Exa Z h x C) (w : (Jvm.Cond.instantiable C k).before a0 Z = true) : Str Z h' a cs := by
  obtain ⟨e, c, ⟨t, kb, v, ar⟩, r⟩ := F
  have q : t ≠ x := Ne.symm (E.neArv ar w)
  exact ⟨e.keep K, c.keep K (ninS ne nin0), ⟨t, kb, v.keep K (ninS ne nin0), ar.keep K (ninS q nin0)⟩, r⟩
theorem up (h : ∀ c ∈ cs, ¬ c < 0 ∧ ¬ (255 : Int32) < c) : ∀ c ∈ cs, ¬ c < 0 ∧ ¬ (65535 : Int32) < c := fun c hc => ⟨(h c hc).1, fun q => (h c hc).2 (by rw [Int32.lt_iff_toInt_lt] at q ⊢; have e1 : (65535 : Int32).toInt = 65535 := rfl; have e2 : (255 : Int32).toInt = 255 := rfl; omega)⟩
theorem keepExt (K : Keep h h' []) : Ext h h' := ⟨K.1, fun q c r => K.2.1 q c r nin0⟩
theorem Str.wr1 {sl : Nat} {v : Value} (F : Str Z h a cs) (K : Wr h h' x sl v) (ne : a ≠ x) (E : Exa Z h x C) (w : (Jvm.Cond.instantiable C k).before a0 Z = true) : Str Z h' a cs := F.keep1 (Keep.of_wr K) ne E w
end StrFacts
section StrRules
variable {l : Launch} {nw : Bool} {Z : State} {EL : List (String × Nat)} {a0 : Array Value} {n0 : Nat} {y : MethodName} {B : ByteArray} {ml : Nat} {ret : Option FieldType} {R : Room} {h0 : Heap} {Post : Option Value → Heap → Prop} {fs : List Addr} {h : Heap} {ce sl pc pc' : Nat} {L : Array Slot} {S S' : List Value}
/-- new String(chars): the call of the constructor, a char[] of 1 to 4,000 chars, each 0 to 255 -/
theorem strNew {i Wd n : Nat} {x b : Addr} {kC : ClassId} {cs : List Int32} {d v0 c0 : Value} {N : Int32} (hB : Sets Z) (hws : ∀ d ∈ StrChars.Road.words, d ∈ tables_1) (wi : tables_1[i]? = some (.instantiable ST 4)) (kd : Kd l Z a0 y B ml R h ce sl pc L S (⟨"java/lang/String", "<init>", "([C)V"⟩ : MethodName) 3 Wd #[.ref x, .ref b] S')
    (E : Exa Z h x ST) (Vf : Fld Z h x ST "value" "[B" v0) (Cf : Fld Z h x ST "coder" "B" c0) (A : Arv Z h b kC .char N (cs.map Value.int) d) (hn : cs.length = n) (hN : N = Int32.ofNat n) (l0 : 0 < n) (l2 : n ≤ 4000) (hp : ∀ c ∈ cs, ¬ c < 0 ∧ ¬ (255 : Int32) < c) (hx : x ∈ fs)
    (hfr : 4 ≤ R.frames) (hlo : Wd + 65 ≤ R.locals) (hc : ce + 1 ≤ R.cells) (hs : sl + n ≤ R.slots) (hpc : pc + 3 = pc') (K : ∀ h', Keep h h' [x] → Str Z h' x cs → Wq l nw Z EL a0 n0 y B ml ret R h0 Post fs h' (ce + 1) (sl + n) pc' L S') : Wq l nw Z EL a0 n0 y B ml ret R h0 Post fs h ce sl pc L S := by
  obtain ⟨zc, fm, Cs, hz, -, -⟩ := hB
  refine old fun O _ => fsz fun F => ?_
  refine callB (ws := [x]) (kc := 1) (ks := n) (Qb := StrChars.Road.QV Z x N (cs.map fun c => c.toInt8.toInt32) h n0) kd (fun hZ hw => StrChars.Road.backV (W := Wd) hZ (fun d q => hw d (hws d q)) (kI := 4) (wat hw wi) (F x hx).1 (by have := O.2.1; rw [O.1] at this; exact this) E Vf Cf A (Cs.ext O.2) hz hn hN l0 l2 hp rfl hfr hlo)
    (fun z q => by cases List.mem_singleton.mp q; exact hx) (fun v h' Lo q => ⟨q.2.1, q.2.2.1⟩) hc hs hpc (fun v h' Lo q => ?_)
  obtain ⟨rfl, -, q3, q4, q5, t, kb, -, -, -, q6, q7⟩ := q
  exact K h' q3 ⟨q4, q5, ⟨t, kb, q6, by rw [hn, ← hN]; exact q7⟩, hp, by omega⟩
theorem strLen {i Wd len : Nat} {x : Addr} {cs : List Int32} (hB : Sets Z) (hws : ∀ d ∈ StrChars.Road.wordsLen, d ∈ tables_1) (wi : tables_1[i]? = some (.instantiable ST 4)) (kd : Kd l Z a0 y B ml R h ce sl pc L S (⟨"java/lang/String", "length", "()I"⟩ : MethodName) len Wd #[.ref x] S')
    (F : Str Z h x cs) (hfr : 2 ≤ R.frames) (hlo : Wd + 25 ≤ R.locals) (hc : ce ≤ R.cells) (hs : sl ≤ R.slots) (hpc : pc + len = pc') (K : Wq l nw Z EL a0 n0 y B ml ret R h0 Post fs h ce sl pc' L (.int (Int32.ofNat cs.length) :: S')) : Wq l nw Z EL a0 n0 y B ml ret R h0 Post fs h ce sl pc L S := by
  obtain ⟨zc, fm, Cs, hz, -, -⟩ := hB
  obtain ⟨e, c, ⟨t, kb, v, ar⟩, hp, l2⟩ := F
  refine old fun O _ => ?_
  refine callB (ws := []) (kc := 0) (ks := 0) (Qb := fun v h' Lo => v = some (.int (Int32.ofNat cs.length)) ∧ Lo = [] ∧ h' = h) kd (fun hZ hw => StrChars.Road.lenW (W := Wd) hZ (fun d q => hw d (hws d q)) (kI := 4) (wat hw wi) e v c ar (StrChars.Road.codOf rfl fun c q => (hp c q).2) (up hp) (Cs.ext O.2) hz l2 hfr hlo)
    (fun z q => nomatch q) (fun v h' Lo q => by obtain ⟨-, rfl, rfl⟩ := q; exact ⟨Fr.nil _, Keep.refl _ _⟩) hc hs hpc (fun v h' Lo q => ?_)
  obtain ⟨rfl, rfl, rfl⟩ := q
  exact K
theorem strAt {i j Wd len : Nat} {x : Addr} {cs : List Int32} {jj c : Int32} (hB : Sets Z) (hws : ∀ d ∈ StrChars.Road.wordsChN, d ∈ tables_1) (wi : tables_1[i]? = some (.instantiable ST 4)) (kd : Kd l Z a0 y B ml R h ce sl pc L S (⟨"java/lang/String", "charAt", "(I)C"⟩ : MethodName) len Wd #[.ref x, .int jj] S')
    (F : Str Z h x cs) (hj : j < cs.length) (hjj : jj = Int32.ofNat j) (hcv : cs.getD j 0 = c) (hfr : 4 ≤ R.frames) (hlo : Wd + 53 ≤ R.locals) (hc : ce ≤ R.cells) (hs : sl ≤ R.slots) (hpc : pc + len = pc') (K : Wq l nw Z EL a0 n0 y B ml ret R h0 Post fs h ce sl pc' L (.int c :: S')) : Wq l nw Z EL a0 n0 y B ml ret R h0 Post fs h ce sl pc L S := by
  obtain ⟨zc, fm, Cs, hz, Sf, hfm⟩ := hB
  obtain ⟨e, co, ⟨t, kb, v, ar⟩, hp, l2⟩ := F
  subst hcv
  refine old fun O _ => ?_
  refine callB (ws := []) (kc := 0) (ks := 0) (Qb := fun v h' Lo => v = some (.int (cs.getD j 0)) ∧ Lo = [] ∧ h' = h) kd (fun hZ hw => StrChars.Road.chN (W := Wd) hZ (fun d q => hw d (hws d q)) (kI := 4) (wat hw wi) e v co ar (StrChars.Road.codOf rfl fun c q => (hp c q).2) (up hp) (Cs.ext O.2) hz (Sf.ext O.2) hfm l2 hj hjj hfr hlo)
    (fun z q => nomatch q) (fun v h' Lo q => by obtain ⟨-, rfl, rfl⟩ := q; exact ⟨Fr.nil _, Keep.refl _ _⟩) hc hs hpc (fun v h' Lo q => ?_)
  obtain ⟨rfl, rfl, rfl⟩ := q
  exact K
end StrRules
end Ow
end Jvm.Pilot.@@N@@
namespace Jvm.Pilot.@@N@@
open Jvm Jvm.ClassFile Sem Op Lib Jvm.Free Jvm.Stand Jvm.LawKit Jvm.RoadKit Bundle Jvm.Pilot.@@N@@.Jvm.D Ow
theorem d_jdk_41_method_12_0 : decode jdk_41_method_12_code 0 = .ok (.iload_n 0, 1) := by decide +kernel
theorem d_jdk_41_method_12_1 : decode jdk_41_method_12_code 1 = .ok (.ifCond .lt 13, 3) := by decide +kernel
theorem d_jdk_41_method_12_4 : decode jdk_41_method_12_code 4 = .ok (.iload_n 0, 1) := by decide +kernel
theorem d_jdk_41_method_12_5 : decode jdk_41_method_12_code 5 = .ok (.iload_n 1, 1) := by decide +kernel
theorem d_jdk_41_method_12_6 : decode jdk_41_method_12_code 6 = .ok (.if_icmp .gt 8, 3) := by decide +kernel
theorem d_jdk_41_method_12_9 : decode jdk_41_method_12_code 9 = .ok (.iload_n 1, 1) := by decide +kernel
theorem d_jdk_41_method_12_10 : decode jdk_41_method_12_code 10 = .ok (.iload_n 2, 1) := by decide +kernel
theorem d_jdk_41_method_12_11 : decode jdk_41_method_12_code 11 = .ok (.if_icmp .le 11, 3) := by decide +kernel
theorem d_jdk_41_method_12_22 : decode jdk_41_method_12_code 22 = .ok (.iload_n 0, 1) := by decide +kernel
theorem d_jdk_41_method_12_23 : decode jdk_41_method_12_code 23 = .ok (.ireturn, 1) := by decide +kernel
theorem d_jdk_42_method_158_0 : decode jdk_42_method_158_code 0 = .ok (.iload_n 0, 1) := by decide +kernel
theorem d_jdk_42_method_158_1 : decode jdk_42_method_158_code 1 = .ok (.iload_n 1, 1) := by decide +kernel
theorem d_jdk_42_method_158_2 : decode jdk_42_method_158_code 2 = .ok (.iload_n 2, 1) := by decide +kernel
theorem d_jdk_42_method_158_3 : decode jdk_42_method_158_code 3 = .ok (.getstatic 1053, 3) := by decide +kernel
theorem d_jdk_42_method_158_6 : decode jdk_42_method_158_code 6 = .ok (.invokestatic 1062, 3) := by decide +kernel
theorem d_jdk_42_method_158_9 : decode jdk_42_method_158_code 9 = .ok (.pop, 1) := by decide +kernel
theorem d_jdk_42_method_158_10 : decode jdk_42_method_158_code 10 = .ok (.return_, 1) := by decide +kernel
theorem d_jdk_42_method_154_0 : decode jdk_42_method_154_code 0 = .ok (.getstatic 38, 3) := by decide +kernel
theorem d_jdk_42_method_154_3 : decode jdk_42_method_154_code 3 = .ok (.ifCond .eq 14, 3) := by decide +kernel
theorem d_jdk_42_method_154_6 : decode jdk_42_method_154_code 6 = .ok (.aload_n 0, 1) := by decide +kernel
theorem d_jdk_42_method_154_7 : decode jdk_42_method_154_code 7 = .ok (.getfield 15, 3) := by decide +kernel
theorem d_jdk_42_method_154_10 : decode jdk_42_method_154_code 10 = .ok (.ifCond .ne 7, 3) := by decide +kernel
theorem d_jdk_42_method_154_13 : decode jdk_42_method_154_code 13 = .ok (.iconst 1, 1) := by decide +kernel
theorem d_jdk_42_method_154_14 : decode jdk_42_method_154_code 14 = .ok (.goto 4, 3) := by decide +kernel
theorem d_jdk_42_method_154_18 : decode jdk_42_method_154_code 18 = .ok (.ireturn, 1) := by decide +kernel
theorem d_jdk_29_method_69_0 : decode jdk_29_method_69_code 0 = .ok (.iload_n 0, 1) := by decide +kernel
theorem d_jdk_29_method_69_1 : decode jdk_29_method_69_code 1 = .ok (.iload_n 1, 1) := by decide +kernel
theorem d_jdk_29_method_69_2 : decode jdk_29_method_69_code 2 = .ok (.if_icmp .gt 7, 3) := by decide +kernel
theorem d_jdk_29_method_69_5 : decode jdk_29_method_69_code 5 = .ok (.iload_n 0, 1) := by decide +kernel
theorem d_jdk_29_method_69_6 : decode jdk_29_method_69_code 6 = .ok (.goto 4, 3) := by decide +kernel
theorem d_jdk_29_method_69_9 : decode jdk_29_method_69_code 9 = .ok (.iload_n 1, 1) := by decide +kernel
theorem d_jdk_29_method_69_10 : decode jdk_29_method_69_code 10 = .ok (.ireturn, 1) := by decide +kernel
theorem d_jdk_65_method_131_0 : decode jdk_65_method_131_code 0 = .ok (.iload_n 1, 1) := by decide +kernel
theorem d_jdk_65_method_131_1 : decode jdk_65_method_131_code 1 = .ok (.iload_n 0, 1) := by decide +kernel
theorem d_jdk_65_method_131_2 : decode jdk_65_method_131_code 2 = .ok (.if_icmp .ge 35, 3) := by decide +kernel
theorem d_jdk_65_method_131_37 : decode jdk_65_method_131_code 37 = .ok (.return_, 1) := by decide +kernel
theorem d_jdk_65_method_133_0 : decode jdk_65_method_133_code 0 = .ok (.iload_n 1, 1) := by decide +kernel
theorem d_jdk_65_method_133_1 : decode jdk_65_method_133_code 1 = .ok (.iload_n 2, 1) := by decide +kernel
theorem d_jdk_65_method_133_2 : decode jdk_65_method_133_code 2 = .ok (.invokestatic 343, 3) := by decide +kernel
theorem d_jdk_65_method_133_5 : decode jdk_65_method_133_code 5 = .ok (.iload_n 2, 1) := by decide +kernel
theorem d_jdk_65_method_133_6 : decode jdk_65_method_133_code 6 = .ok (.iload_n 1, 1) := by decide +kernel
theorem d_jdk_65_method_133_7 : decode jdk_65_method_133_code 7 = .ok (.isub, 1) := by decide +kernel
theorem d_jdk_65_method_133_8 : decode jdk_65_method_133_code 8 = .ok (.istore_n 3, 1) := by decide +kernel
theorem d_jdk_65_method_133_9 : decode jdk_65_method_133_code 9 = .ok (.iload_n 3, 1) := by decide +kernel
theorem d_jdk_65_method_133_10 : decode jdk_65_method_133_code 10 = .ok (.newarray .byte, 2) := by decide +kernel
theorem d_jdk_65_method_133_12 : decode jdk_65_method_133_code 12 = .ok (.astore 4, 2) := by decide +kernel
theorem d_jdk_65_method_133_14 : decode jdk_65_method_133_code 14 = .ok (.aload_n 0, 1) := by decide +kernel
theorem d_jdk_65_method_133_15 : decode jdk_65_method_133_code 15 = .ok (.iload_n 1, 1) := by decide +kernel
theorem d_jdk_65_method_133_16 : decode jdk_65_method_133_code 16 = .ok (.aload 4, 2) := by decide +kernel
theorem d_jdk_65_method_133_18 : decode jdk_65_method_133_code 18 = .ok (.iconst 0, 1) := by decide +kernel
theorem d_jdk_65_method_133_19 : decode jdk_65_method_133_code 19 = .ok (.aload_n 0, 1) := by decide +kernel
theorem d_jdk_65_method_133_20 : decode jdk_65_method_133_code 20 = .ok (.arraylength, 1) := by decide +kernel
theorem d_jdk_65_method_133_21 : decode jdk_65_method_133_code 21 = .ok (.iload_n 1, 1) := by decide +kernel
theorem d_jdk_65_method_133_22 : decode jdk_65_method_133_code 22 = .ok (.isub, 1) := by decide +kernel
theorem d_jdk_65_method_133_23 : decode jdk_65_method_133_code 23 = .ok (.iload_n 3, 1) := by decide +kernel
theorem d_jdk_65_method_133_24 : decode jdk_65_method_133_code 24 = .ok (.invokestatic 304, 3) := by decide +kernel
theorem d_jdk_65_method_133_27 : decode jdk_65_method_133_code 27 = .ok (.invokestatic 150, 3) := by decide +kernel
theorem d_jdk_65_method_133_30 : decode jdk_65_method_133_code 30 = .ok (.aload 4, 2) := by decide +kernel
theorem d_jdk_65_method_133_32 : decode jdk_65_method_133_code 32 = .ok (.areturn, 1) := by decide +kernel
theorem d_jdk_65_method_132_0 : decode jdk_65_method_132_code 0 = .ok (.iload_n 1, 1) := by decide +kernel
theorem d_jdk_65_method_132_1 : decode jdk_65_method_132_code 1 = .ok (.ifCond .ne 9, 3) := by decide +kernel
theorem d_jdk_65_method_132_4 : decode jdk_65_method_132_code 4 = .ok (.iload_n 2, 1) := by decide +kernel
theorem d_jdk_65_method_132_5 : decode jdk_65_method_132_code 5 = .ok (.aload_n 0, 1) := by decide +kernel
theorem d_jdk_65_method_132_6 : decode jdk_65_method_132_code 6 = .ok (.arraylength, 1) := by decide +kernel
theorem d_jdk_65_method_132_7 : decode jdk_65_method_132_code 7 = .ok (.if_icmp .eq 10, 3) := by decide +kernel
theorem d_jdk_65_method_132_10 : decode jdk_65_method_132_code 10 = .ok (.aload_n 0, 1) := by decide +kernel
theorem d_jdk_65_method_132_11 : decode jdk_65_method_132_code 11 = .ok (.iload_n 1, 1) := by decide +kernel
theorem d_jdk_65_method_132_12 : decode jdk_65_method_132_code 12 = .ok (.iload_n 2, 1) := by decide +kernel
theorem d_jdk_65_method_132_13 : decode jdk_65_method_132_code 13 = .ok (.invokestatic 339, 3) := by decide +kernel
theorem d_jdk_65_method_132_16 : decode jdk_65_method_132_code 16 = .ok (.areturn, 1) := by decide +kernel
theorem d_jdk_65_method_132_17 : decode jdk_65_method_132_code 17 = .ok (.aload_n 0, 1) := by decide +kernel
theorem d_jdk_65_method_132_18 : decode jdk_65_method_132_code 18 = .ok (.invokevirtual 310, 3) := by decide +kernel
theorem d_jdk_65_method_132_21 : decode jdk_65_method_132_code 21 = .ok (.checkcast 311, 3) := by decide +kernel
theorem d_jdk_65_method_132_24 : decode jdk_65_method_132_code 24 = .ok (.areturn, 1) := by decide +kernel
theorem d_jdk_42_method_151_0 : decode jdk_42_method_151_code 0 = .ok (.aload_n 0, 1) := by decide +kernel
theorem d_jdk_42_method_151_1 : decode jdk_42_method_151_code 1 = .ok (.invokespecial 1, 3) := by decide +kernel
theorem d_jdk_42_method_151_4 : decode jdk_42_method_151_code 4 = .ok (.aload_n 0, 1) := by decide +kernel
theorem d_jdk_42_method_151_5 : decode jdk_42_method_151_code 5 = .ok (.aload_n 1, 1) := by decide +kernel
theorem d_jdk_42_method_151_6 : decode jdk_42_method_151_code 6 = .ok (.putfield 9, 3) := by decide +kernel
theorem d_jdk_42_method_151_9 : decode jdk_42_method_151_code 9 = .ok (.aload_n 0, 1) := by decide +kernel
theorem d_jdk_42_method_151_10 : decode jdk_42_method_151_code 10 = .ok (.iload_n 2, 1) := by decide +kernel
theorem d_jdk_42_method_151_11 : decode jdk_42_method_151_code 11 = .ok (.putfield 15, 3) := by decide +kernel
theorem d_jdk_42_method_151_14 : decode jdk_42_method_151_code 14 = .ok (.return_, 1) := by decide +kernel
theorem d_jdk_43_method_47_0 : decode jdk_43_method_47_code 0 = .ok (.iload_n 2, 1) := by decide +kernel
theorem d_jdk_43_method_47_1 : decode jdk_43_method_47_code 1 = .ok (.ifCond .ne 6, 3) := by decide +kernel
theorem d_jdk_43_method_47_4 : decode jdk_43_method_47_code 4 = .ok (.ldc 151, 2) := by decide +kernel
theorem d_jdk_43_method_47_6 : decode jdk_43_method_47_code 6 = .ok (.areturn, 1) := by decide +kernel
theorem d_jdk_43_method_47_7 : decode jdk_43_method_47_code 7 = .ok (.new 1, 3) := by decide +kernel
theorem d_jdk_43_method_47_10 : decode jdk_43_method_47_code 10 = .ok (.dup, 1) := by decide +kernel
theorem d_jdk_43_method_47_11 : decode jdk_43_method_47_code 11 = .ok (.aload_n 0, 1) := by decide +kernel
theorem d_jdk_43_method_47_12 : decode jdk_43_method_47_code 12 = .ok (.iload_n 1, 1) := by decide +kernel
theorem d_jdk_43_method_47_13 : decode jdk_43_method_47_code 13 = .ok (.iload_n 1, 1) := by decide +kernel
theorem d_jdk_43_method_47_14 : decode jdk_43_method_47_code 14 = .ok (.iload_n 2, 1) := by decide +kernel
theorem d_jdk_43_method_47_15 : decode jdk_43_method_47_code 15 = .ok (.iadd, 1) := by decide +kernel
theorem d_jdk_43_method_47_16 : decode jdk_43_method_47_code 16 = .ok (.invokestatic 232, 3) := by decide +kernel
theorem d_jdk_43_method_47_19 : decode jdk_43_method_47_code 19 = .ok (.iconst 0, 1) := by decide +kernel
theorem d_jdk_43_method_47_20 : decode jdk_43_method_47_code 20 = .ok (.invokespecial 112, 3) := by decide +kernel
theorem d_jdk_43_method_47_23 : decode jdk_43_method_47_code 23 = .ok (.areturn, 1) := by decide +kernel
theorem d_jdk_42_method_92_0 : decode jdk_42_method_92_code 0 = .ok (.aload_n 0, 1) := by decide +kernel
theorem d_jdk_42_method_92_1 : decode jdk_42_method_92_code 1 = .ok (.invokevirtual 505, 3) := by decide +kernel
theorem d_jdk_42_method_92_4 : decode jdk_42_method_92_code 4 = .ok (.istore_n 3, 1) := by decide +kernel
theorem d_jdk_42_method_92_5 : decode jdk_42_method_92_code 5 = .ok (.iload_n 1, 1) := by decide +kernel
theorem d_jdk_42_method_92_6 : decode jdk_42_method_92_code 6 = .ok (.iload_n 2, 1) := by decide +kernel
theorem d_jdk_42_method_92_7 : decode jdk_42_method_92_code 7 = .ok (.iload_n 3, 1) := by decide +kernel
theorem d_jdk_42_method_92_8 : decode jdk_42_method_92_code 8 = .ok (.invokestatic 521, 3) := by decide +kernel
theorem d_jdk_42_method_92_11 : decode jdk_42_method_92_code 11 = .ok (.iload_n 1, 1) := by decide +kernel
theorem d_jdk_42_method_92_12 : decode jdk_42_method_92_code 12 = .ok (.ifCond .ne 10, 3) := by decide +kernel
theorem d_jdk_42_method_92_15 : decode jdk_42_method_92_code 15 = .ok (.iload_n 2, 1) := by decide +kernel
theorem d_jdk_42_method_92_16 : decode jdk_42_method_92_code 16 = .ok (.iload_n 3, 1) := by decide +kernel
theorem d_jdk_42_method_92_17 : decode jdk_42_method_92_code 17 = .ok (.if_icmp .ne 5, 3) := by decide +kernel
theorem d_jdk_42_method_92_20 : decode jdk_42_method_92_code 20 = .ok (.aload_n 0, 1) := by decide +kernel
theorem d_jdk_42_method_92_21 : decode jdk_42_method_92_code 21 = .ok (.areturn, 1) := by decide +kernel
theorem d_jdk_42_method_92_22 : decode jdk_42_method_92_code 22 = .ok (.iload_n 2, 1) := by decide +kernel
theorem d_jdk_42_method_92_23 : decode jdk_42_method_92_code 23 = .ok (.iload_n 1, 1) := by decide +kernel
theorem d_jdk_42_method_92_24 : decode jdk_42_method_92_code 24 = .ok (.isub, 1) := by decide +kernel
theorem d_jdk_42_method_92_25 : decode jdk_42_method_92_code 25 = .ok (.istore 4, 2) := by decide +kernel
theorem d_jdk_42_method_92_27 : decode jdk_42_method_92_code 27 = .ok (.aload_n 0, 1) := by decide +kernel
theorem d_jdk_42_method_92_28 : decode jdk_42_method_92_code 28 = .ok (.invokevirtual 492, 3) := by decide +kernel
theorem d_jdk_42_method_92_31 : decode jdk_42_method_92_code 31 = .ok (.ifCond .eq 16, 3) := by decide +kernel
theorem d_jdk_42_method_92_34 : decode jdk_42_method_92_code 34 = .ok (.aload_n 0, 1) := by decide +kernel
theorem d_jdk_42_method_92_35 : decode jdk_42_method_92_code 35 = .ok (.getfield 9, 3) := by decide +kernel
theorem d_jdk_42_method_92_38 : decode jdk_42_method_92_code 38 = .ok (.iload_n 1, 1) := by decide +kernel
theorem d_jdk_42_method_92_39 : decode jdk_42_method_92_code 39 = .ok (.iload 4, 2) := by decide +kernel
theorem d_jdk_42_method_92_41 : decode jdk_42_method_92_code 41 = .ok (.invokestatic 685, 3) := by decide +kernel
theorem d_jdk_42_method_92_44 : decode jdk_42_method_92_code 44 = .ok (.goto 13, 3) := by decide +kernel
theorem d_jdk_42_method_92_57 : decode jdk_42_method_92_code 57 = .ok (.areturn, 1) := by decide +kernel
theorem d_jdk_68_method_2_0 : decode jdk_68_method_2_code 0 = .ok (.aload_n 0, 1) := by decide +kernel
theorem d_jdk_68_method_2_1 : decode jdk_68_method_2_code 1 = .ok (.invokespecial 3, 3) := by decide +kernel
theorem d_jdk_68_method_2_4 : decode jdk_68_method_2_code 4 = .ok (.getstatic 18, 3) := by decide +kernel
theorem d_jdk_68_method_2_7 : decode jdk_68_method_2_code 7 = .ok (.ifCond .eq 18, 3) := by decide +kernel
theorem d_jdk_68_method_2_10 : decode jdk_68_method_2_code 10 = .ok (.aload_n 0, 1) := by decide +kernel
theorem d_jdk_68_method_2_11 : decode jdk_68_method_2_code 11 = .ok (.iload_n 1, 1) := by decide +kernel
theorem d_jdk_68_method_2_12 : decode jdk_68_method_2_code 12 = .ok (.newarray .byte, 2) := by decide +kernel
theorem d_jdk_68_method_2_14 : decode jdk_68_method_2_code 14 = .ok (.putfield 15, 3) := by decide +kernel
theorem d_jdk_68_method_2_17 : decode jdk_68_method_2_code 17 = .ok (.aload_n 0, 1) := by decide +kernel
theorem d_jdk_68_method_2_18 : decode jdk_68_method_2_code 18 = .ok (.iconst 0, 1) := by decide +kernel
theorem d_jdk_68_method_2_19 : decode jdk_68_method_2_code 19 = .ok (.putfield 22, 3) := by decide +kernel
theorem d_jdk_68_method_2_22 : decode jdk_68_method_2_code 22 = .ok (.goto 16, 3) := by decide +kernel
theorem d_jdk_68_method_2_38 : decode jdk_68_method_2_code 38 = .ok (.return_, 1) := by decide +kernel
theorem d_jdk_67_method_2_0 : decode jdk_67_method_2_code 0 = .ok (.aload_n 0, 1) := by decide +kernel
theorem d_jdk_67_method_2_1 : decode jdk_67_method_2_code 1 = .ok (.iload_n 1, 1) := by decide +kernel
theorem d_jdk_67_method_2_2 : decode jdk_67_method_2_code 2 = .ok (.invokespecial 1, 3) := by decide +kernel
theorem d_jdk_67_method_2_5 : decode jdk_67_method_2_code 5 = .ok (.return_, 1) := by decide +kernel
theorem d_jdk_68_method_9_0 : decode jdk_68_method_9_code 0 = .ok (.aload_n 0, 1) := by decide +kernel
theorem d_jdk_68_method_9_1 : decode jdk_68_method_9_code 1 = .ok (.getfield 15, 3) := by decide +kernel
theorem d_jdk_68_method_9_4 : decode jdk_68_method_9_code 4 = .ok (.arraylength, 1) := by decide +kernel
theorem d_jdk_68_method_9_5 : decode jdk_68_method_9_code 5 = .ok (.aload_n 0, 1) := by decide +kernel
theorem d_jdk_68_method_9_6 : decode jdk_68_method_9_code 6 = .ok (.getfield 22, 3) := by decide +kernel
theorem d_jdk_68_method_9_9 : decode jdk_68_method_9_code 9 = .ok (.ishr, 1) := by decide +kernel
theorem d_jdk_68_method_9_10 : decode jdk_68_method_9_code 10 = .ok (.istore_n 2, 1) := by decide +kernel
theorem d_jdk_68_method_9_11 : decode jdk_68_method_9_code 11 = .ok (.iload_n 1, 1) := by decide +kernel
theorem d_jdk_68_method_9_12 : decode jdk_68_method_9_code 12 = .ok (.iload_n 2, 1) := by decide +kernel
theorem d_jdk_68_method_9_13 : decode jdk_68_method_9_code 13 = .ok (.isub, 1) := by decide +kernel
theorem d_jdk_68_method_9_14 : decode jdk_68_method_9_code 14 = .ok (.ifCond .le 24, 3) := by decide +kernel
theorem d_jdk_68_method_9_38 : decode jdk_68_method_9_code 38 = .ok (.return_, 1) := by decide +kernel
theorem d_jdk_68_method_68_0 : decode jdk_68_method_68_code 0 = .ok (.getstatic 18, 3) := by decide +kernel
theorem d_jdk_68_method_68_3 : decode jdk_68_method_68_code 3 = .ok (.ifCond .eq 14, 3) := by decide +kernel
theorem d_jdk_68_method_68_6 : decode jdk_68_method_68_code 6 = .ok (.aload_n 0, 1) := by decide +kernel
theorem d_jdk_68_method_68_7 : decode jdk_68_method_68_code 7 = .ok (.getfield 22, 3) := by decide +kernel
theorem d_jdk_68_method_68_10 : decode jdk_68_method_68_code 10 = .ok (.ifCond .ne 7, 3) := by decide +kernel
theorem d_jdk_68_method_68_13 : decode jdk_68_method_68_code 13 = .ok (.iconst 1, 1) := by decide +kernel
theorem d_jdk_68_method_68_14 : decode jdk_68_method_68_code 14 = .ok (.goto 4, 3) := by decide +kernel
theorem d_jdk_68_method_68_18 : decode jdk_68_method_68_code 18 = .ok (.ireturn, 1) := by decide +kernel
theorem d_jdk_43_method_3_0 : decode jdk_43_method_3_code 0 = .ok (.iload_n 0, 1) := by decide +kernel
theorem d_jdk_43_method_3_1 : decode jdk_43_method_3_code 1 = .ok (.sipush 255, 3) := by decide +kernel
theorem d_jdk_43_method_3_4 : decode jdk_43_method_3_code 4 = .ok (.if_icmp .gt 7, 3) := by decide +kernel
theorem d_jdk_43_method_3_7 : decode jdk_43_method_3_code 7 = .ok (.iconst 1, 1) := by decide +kernel
theorem d_jdk_43_method_3_8 : decode jdk_43_method_3_code 8 = .ok (.goto 4, 3) := by decide +kernel
theorem d_jdk_43_method_3_12 : decode jdk_43_method_3_code 12 = .ok (.ireturn, 1) := by decide +kernel
theorem d_jdk_68_method_31_0 : decode jdk_68_method_31_code 0 = .ok (.aload_n 0, 1) := by decide +kernel
theorem d_jdk_68_method_31_1 : decode jdk_68_method_31_code 1 = .ok (.aload_n 0, 1) := by decide +kernel
theorem d_jdk_68_method_31_2 : decode jdk_68_method_31_code 2 = .ok (.getfield 79, 3) := by decide +kernel
theorem d_jdk_68_method_31_5 : decode jdk_68_method_31_code 5 = .ok (.iconst 1, 1) := by decide +kernel
theorem d_jdk_68_method_31_6 : decode jdk_68_method_31_code 6 = .ok (.iadd, 1) := by decide +kernel
theorem d_jdk_68_method_31_7 : decode jdk_68_method_31_code 7 = .ok (.invokevirtual 100, 3) := by decide +kernel
theorem d_jdk_68_method_31_10 : decode jdk_68_method_31_code 10 = .ok (.aload_n 0, 1) := by decide +kernel
theorem d_jdk_68_method_31_11 : decode jdk_68_method_31_code 11 = .ok (.invokevirtual 83, 3) := by decide +kernel
theorem d_jdk_68_method_31_14 : decode jdk_68_method_31_code 14 = .ok (.ifCond .eq 31, 3) := by decide +kernel
theorem d_jdk_68_method_31_17 : decode jdk_68_method_31_code 17 = .ok (.iload_n 1, 1) := by decide +kernel
theorem d_jdk_68_method_31_18 : decode jdk_68_method_31_code 18 = .ok (.invokestatic 191, 3) := by decide +kernel
theorem d_jdk_68_method_31_21 : decode jdk_68_method_31_code 21 = .ok (.ifCond .eq 24, 3) := by decide +kernel
theorem d_jdk_68_method_31_24 : decode jdk_68_method_31_code 24 = .ok (.aload_n 0, 1) := by decide +kernel
theorem d_jdk_68_method_31_25 : decode jdk_68_method_31_code 25 = .ok (.getfield 15, 3) := by decide +kernel
theorem d_jdk_68_method_31_28 : decode jdk_68_method_31_code 28 = .ok (.aload_n 0, 1) := by decide +kernel
theorem d_jdk_68_method_31_29 : decode jdk_68_method_31_code 29 = .ok (.dup, 1) := by decide +kernel
theorem d_jdk_68_method_31_30 : decode jdk_68_method_31_code 30 = .ok (.getfield 79, 3) := by decide +kernel
theorem d_jdk_68_method_31_33 : decode jdk_68_method_31_code 33 = .ok (.dup_x1, 1) := by decide +kernel
theorem d_jdk_68_method_31_34 : decode jdk_68_method_31_code 34 = .ok (.iconst 1, 1) := by decide +kernel
theorem d_jdk_68_method_31_35 : decode jdk_68_method_31_code 35 = .ok (.iadd, 1) := by decide +kernel
theorem d_jdk_68_method_31_36 : decode jdk_68_method_31_code 36 = .ok (.putfield 79, 3) := by decide +kernel
theorem d_jdk_68_method_31_39 : decode jdk_68_method_31_code 39 = .ok (.iload_n 1, 1) := by decide +kernel
theorem d_jdk_68_method_31_40 : decode jdk_68_method_31_code 40 = .ok (.i2b, 1) := by decide +kernel
theorem d_jdk_68_method_31_41 : decode jdk_68_method_31_code 41 = .ok (.bastore, 1) := by decide +kernel
theorem d_jdk_68_method_31_42 : decode jdk_68_method_31_code 42 = .ok (.goto 33, 3) := by decide +kernel
theorem d_jdk_68_method_31_75 : decode jdk_68_method_31_code 75 = .ok (.aload_n 0, 1) := by decide +kernel
theorem d_jdk_68_method_31_76 : decode jdk_68_method_31_code 76 = .ok (.areturn, 1) := by decide +kernel
theorem d_jdk_67_method_14_0 : decode jdk_67_method_14_code 0 = .ok (.aload_n 0, 1) := by decide +kernel
theorem d_jdk_67_method_14_1 : decode jdk_67_method_14_code 1 = .ok (.iload_n 1, 1) := by decide +kernel
theorem d_jdk_67_method_14_2 : decode jdk_67_method_14_code 2 = .ok (.invokespecial 50, 3) := by decide +kernel
theorem d_jdk_67_method_14_5 : decode jdk_67_method_14_code 5 = .ok (.pop, 1) := by decide +kernel
theorem d_jdk_67_method_14_6 : decode jdk_67_method_14_code 6 = .ok (.aload_n 0, 1) := by decide +kernel
theorem d_jdk_67_method_14_7 : decode jdk_67_method_14_code 7 = .ok (.areturn, 1) := by decide +kernel
theorem d_jdk_42_method_153_0 : decode jdk_42_method_153_code 0 = .ok (.aload_n 0, 1) := by decide +kernel
theorem d_jdk_42_method_153_1 : decode jdk_42_method_153_code 1 = .ok (.getfield 9, 3) := by decide +kernel
theorem d_jdk_42_method_153_4 : decode jdk_42_method_153_code 4 = .ok (.areturn, 1) := by decide +kernel
theorem d_jdk_68_method_75_0 : decode jdk_68_method_75_code 0 = .ok (.aload_n 0, 1) := by decide +kernel
theorem d_jdk_68_method_75_1 : decode jdk_68_method_75_code 1 = .ok (.invokevirtual 83, 3) := by decide +kernel
theorem d_jdk_68_method_75_4 : decode jdk_68_method_75_code 4 = .ok (.ifCond .eq 141, 3) := by decide +kernel
theorem d_jdk_68_method_75_7 : decode jdk_68_method_75_code 7 = .ok (.aload_n 1, 1) := by decide +kernel
theorem d_jdk_68_method_75_8 : decode jdk_68_method_75_code 8 = .ok (.invokevirtual 400, 3) := by decide +kernel
theorem d_jdk_68_method_75_11 : decode jdk_68_method_75_code 11 = .ok (.ifCond .eq 25, 3) := by decide +kernel
theorem d_jdk_68_method_75_14 : decode jdk_68_method_75_code 14 = .ok (.aload_n 1, 1) := by decide +kernel
theorem d_jdk_68_method_75_15 : decode jdk_68_method_75_code 15 = .ok (.invokevirtual 401, 3) := by decide +kernel
theorem d_jdk_68_method_75_18 : decode jdk_68_method_75_code 18 = .ok (.iload_n 2, 1) := by decide +kernel
theorem d_jdk_68_method_75_19 : decode jdk_68_method_75_code 19 = .ok (.aload_n 0, 1) := by decide +kernel
theorem d_jdk_68_method_75_20 : decode jdk_68_method_75_code 20 = .ok (.getfield 15, 3) := by decide +kernel
theorem d_jdk_68_method_75_23 : decode jdk_68_method_75_code 23 = .ok (.aload_n 0, 1) := by decide +kernel
theorem d_jdk_68_method_75_24 : decode jdk_68_method_75_code 24 = .ok (.getfield 79, 3) := by decide +kernel
theorem d_jdk_68_method_75_27 : decode jdk_68_method_75_code 27 = .ok (.iload_n 3, 1) := by decide +kernel
theorem d_jdk_68_method_75_28 : decode jdk_68_method_75_code 28 = .ok (.iload_n 2, 1) := by decide +kernel
theorem d_jdk_68_method_75_29 : decode jdk_68_method_75_code 29 = .ok (.isub, 1) := by decide +kernel
theorem d_jdk_68_method_75_30 : decode jdk_68_method_75_code 30 = .ok (.invokestatic 309, 3) := by decide +kernel
theorem d_jdk_68_method_75_33 : decode jdk_68_method_75_code 33 = .ok (.goto 161, 3) := by decide +kernel
theorem d_jdk_68_method_75_194 : decode jdk_68_method_75_code 194 = .ok (.aload_n 0, 1) := by decide +kernel
theorem d_jdk_68_method_75_195 : decode jdk_68_method_75_code 195 = .ok (.dup, 1) := by decide +kernel
theorem d_jdk_68_method_75_196 : decode jdk_68_method_75_code 196 = .ok (.getfield 79, 3) := by decide +kernel
theorem d_jdk_68_method_75_199 : decode jdk_68_method_75_code 199 = .ok (.iload_n 3, 1) := by decide +kernel
theorem d_jdk_68_method_75_200 : decode jdk_68_method_75_code 200 = .ok (.iload_n 2, 1) := by decide +kernel
theorem d_jdk_68_method_75_201 : decode jdk_68_method_75_code 201 = .ok (.isub, 1) := by decide +kernel
theorem d_jdk_68_method_75_202 : decode jdk_68_method_75_code 202 = .ok (.iadd, 1) := by decide +kernel
theorem d_jdk_68_method_75_203 : decode jdk_68_method_75_code 203 = .ok (.putfield 79, 3) := by decide +kernel
theorem d_jdk_68_method_75_206 : decode jdk_68_method_75_code 206 = .ok (.return_, 1) := by decide +kernel
theorem d_jdk_68_method_27_0 : decode jdk_68_method_27_code 0 = .ok (.aload_n 1, 1) := by decide +kernel
theorem d_jdk_68_method_27_1 : decode jdk_68_method_27_code 1 = .ok (.ifnonnull 6, 3) := by decide +kernel
theorem d_jdk_68_method_27_7 : decode jdk_68_method_27_code 7 = .ok (.iload_n 2, 1) := by decide +kernel
theorem d_jdk_68_method_27_8 : decode jdk_68_method_27_code 8 = .ok (.iload_n 3, 1) := by decide +kernel
theorem d_jdk_68_method_27_9 : decode jdk_68_method_27_code 9 = .ok (.aload_n 1, 1) := by decide +kernel
theorem d_jdk_68_method_27_10 : decode jdk_68_method_27_code 10 = .ok (.invokeinterface 47 1, 5) := by decide +kernel
theorem d_jdk_68_method_27_15 : decode jdk_68_method_27_code 15 = .ok (.getstatic 183, 3) := by decide +kernel
theorem d_jdk_68_method_27_18 : decode jdk_68_method_27_code 18 = .ok (.invokestatic 161, 3) := by decide +kernel
theorem d_jdk_68_method_27_21 : decode jdk_68_method_27_code 21 = .ok (.pop, 1) := by decide +kernel
theorem d_jdk_68_method_27_22 : decode jdk_68_method_27_code 22 = .ok (.iload_n 3, 1) := by decide +kernel
theorem d_jdk_68_method_27_23 : decode jdk_68_method_27_code 23 = .ok (.iload_n 2, 1) := by decide +kernel
theorem d_jdk_68_method_27_24 : decode jdk_68_method_27_code 24 = .ok (.isub, 1) := by decide +kernel
theorem d_jdk_68_method_27_25 : decode jdk_68_method_27_code 25 = .ok (.istore 4, 2) := by decide +kernel
theorem d_jdk_68_method_27_27 : decode jdk_68_method_27_code 27 = .ok (.aload_n 0, 1) := by decide +kernel
theorem d_jdk_68_method_27_28 : decode jdk_68_method_27_code 28 = .ok (.aload_n 0, 1) := by decide +kernel
theorem d_jdk_68_method_27_29 : decode jdk_68_method_27_code 29 = .ok (.getfield 79, 3) := by decide +kernel
theorem d_jdk_68_method_27_32 : decode jdk_68_method_27_code 32 = .ok (.iload 4, 2) := by decide +kernel
theorem d_jdk_68_method_27_34 : decode jdk_68_method_27_code 34 = .ok (.iadd, 1) := by decide +kernel
theorem d_jdk_68_method_27_35 : decode jdk_68_method_27_code 35 = .ok (.invokevirtual 100, 3) := by decide +kernel
theorem d_jdk_68_method_27_38 : decode jdk_68_method_27_code 38 = .ok (.aload_n 1, 1) := by decide +kernel
theorem d_jdk_68_method_27_39 : decode jdk_68_method_27_code 39 = .ok (.instanceof 1, 3) := by decide +kernel
theorem d_jdk_68_method_27_42 : decode jdk_68_method_27_code 42 = .ok (.ifCond .eq 16, 3) := by decide +kernel
theorem d_jdk_68_method_27_45 : decode jdk_68_method_27_code 45 = .ok (.aload_n 0, 1) := by decide +kernel
theorem d_jdk_68_method_27_46 : decode jdk_68_method_27_code 46 = .ok (.aload_n 1, 1) := by decide +kernel
theorem d_jdk_68_method_27_47 : decode jdk_68_method_27_code 47 = .ok (.checkcast 1, 3) := by decide +kernel
theorem d_jdk_68_method_27_50 : decode jdk_68_method_27_code 50 = .ok (.iload_n 2, 1) := by decide +kernel
theorem d_jdk_68_method_27_51 : decode jdk_68_method_27_code 51 = .ok (.iload_n 3, 1) := by decide +kernel
theorem d_jdk_68_method_27_52 : decode jdk_68_method_27_code 52 = .ok (.invokevirtual 232, 3) := by decide +kernel
theorem d_jdk_68_method_27_55 : decode jdk_68_method_27_code 55 = .ok (.goto 10, 3) := by decide +kernel
theorem d_jdk_68_method_27_65 : decode jdk_68_method_27_code 65 = .ok (.aload_n 0, 1) := by decide +kernel
theorem d_jdk_68_method_27_66 : decode jdk_68_method_27_code 66 = .ok (.areturn, 1) := by decide +kernel
theorem d_jdk_67_method_10_0 : decode jdk_67_method_10_code 0 = .ok (.aload_n 0, 1) := by decide +kernel
theorem d_jdk_67_method_10_1 : decode jdk_67_method_10_code 1 = .ok (.aload_n 1, 1) := by decide +kernel
theorem d_jdk_67_method_10_2 : decode jdk_67_method_10_code 2 = .ok (.iload_n 2, 1) := by decide +kernel
theorem d_jdk_67_method_10_3 : decode jdk_67_method_10_code 3 = .ok (.iload_n 3, 1) := by decide +kernel
theorem d_jdk_67_method_10_4 : decode jdk_67_method_10_code 4 = .ok (.invokespecial 38, 3) := by decide +kernel
theorem d_jdk_67_method_10_7 : decode jdk_67_method_10_code 7 = .ok (.pop, 1) := by decide +kernel
theorem d_jdk_67_method_10_8 : decode jdk_67_method_10_code 8 = .ok (.aload_n 0, 1) := by decide +kernel
theorem d_jdk_67_method_10_9 : decode jdk_67_method_10_code 9 = .ok (.areturn, 1) := by decide +kernel
theorem d_jdk_68_method_64_0 : decode jdk_68_method_64_code 0 = .ok (.aload_n 0, 1) := by decide +kernel
theorem d_jdk_68_method_64_1 : decode jdk_68_method_64_code 1 = .ok (.getfield 15, 3) := by decide +kernel
theorem d_jdk_68_method_64_4 : decode jdk_68_method_64_code 4 = .ok (.areturn, 1) := by decide +kernel
theorem d_jdk_68_method_6_0 : decode jdk_68_method_6_code 0 = .ok (.aload_n 0, 1) := by decide +kernel
theorem d_jdk_68_method_6_1 : decode jdk_68_method_6_code 1 = .ok (.getfield 79, 3) := by decide +kernel
theorem d_jdk_68_method_6_4 : decode jdk_68_method_6_code 4 = .ok (.ireturn, 1) := by decide +kernel
theorem d_jdk_67_method_93_0 : decode jdk_67_method_93_code 0 = .ok (.aload_n 0, 1) := by decide +kernel
theorem d_jdk_67_method_93_1 : decode jdk_67_method_93_code 1 = .ok (.invokespecial 343, 3) := by decide +kernel
theorem d_jdk_67_method_93_4 : decode jdk_67_method_93_code 4 = .ok (.ireturn, 1) := by decide +kernel
theorem d_jdk_42_method_150_0 : decode jdk_42_method_150_code 0 = .ok (.aload_n 0, 1) := by decide +kernel
theorem d_jdk_42_method_150_1 : decode jdk_42_method_150_code 1 = .ok (.invokespecial 1, 3) := by decide +kernel
theorem d_jdk_42_method_150_4 : decode jdk_42_method_150_code 4 = .ok (.aload_n 1, 1) := by decide +kernel
theorem d_jdk_42_method_150_5 : decode jdk_42_method_150_code 5 = .ok (.invokevirtual 552, 3) := by decide +kernel
theorem d_jdk_42_method_150_8 : decode jdk_42_method_150_code 8 = .ok (.astore_n 3, 1) := by decide +kernel
theorem d_jdk_42_method_150_9 : decode jdk_42_method_150_code 9 = .ok (.aload_n 1, 1) := by decide +kernel
theorem d_jdk_42_method_150_10 : decode jdk_42_method_150_code 10 = .ok (.invokevirtual 549, 3) := by decide +kernel
theorem d_jdk_42_method_150_13 : decode jdk_42_method_150_code 13 = .ok (.istore 4, 2) := by decide +kernel
theorem d_jdk_42_method_150_15 : decode jdk_42_method_150_code 15 = .ok (.aload_n 1, 1) := by decide +kernel
theorem d_jdk_42_method_150_16 : decode jdk_42_method_150_code 16 = .ok (.invokevirtual 1047, 3) := by decide +kernel
theorem d_jdk_42_method_150_19 : decode jdk_42_method_150_code 19 = .ok (.ifCond .eq 22, 3) := by decide +kernel
theorem d_jdk_42_method_150_22 : decode jdk_42_method_150_code 22 = .ok (.aload_n 0, 1) := by decide +kernel
theorem d_jdk_42_method_150_23 : decode jdk_42_method_150_code 23 = .ok (.iconst 0, 1) := by decide +kernel
theorem d_jdk_42_method_150_24 : decode jdk_42_method_150_code 24 = .ok (.putfield 15, 3) := by decide +kernel
theorem d_jdk_42_method_150_27 : decode jdk_42_method_150_code 27 = .ok (.aload_n 0, 1) := by decide +kernel
theorem d_jdk_42_method_150_28 : decode jdk_42_method_150_code 28 = .ok (.aload_n 3, 1) := by decide +kernel
theorem d_jdk_42_method_150_29 : decode jdk_42_method_150_code 29 = .ok (.iconst 0, 1) := by decide +kernel
theorem d_jdk_42_method_150_30 : decode jdk_42_method_150_code 30 = .ok (.iload 4, 2) := by decide +kernel
theorem d_jdk_42_method_150_32 : decode jdk_42_method_150_code 32 = .ok (.invokestatic 54, 3) := by decide +kernel
theorem d_jdk_42_method_150_35 : decode jdk_42_method_150_code 35 = .ok (.putfield 9, 3) := by decide +kernel
theorem d_jdk_42_method_150_38 : decode jdk_42_method_150_code 38 = .ok (.goto 59, 3) := by decide +kernel
theorem d_jdk_42_method_150_97 : decode jdk_42_method_150_code 97 = .ok (.return_, 1) := by decide +kernel
theorem d_jdk_42_method_53_0 : decode jdk_42_method_53_code 0 = .ok (.aload_n 0, 1) := by decide +kernel
theorem d_jdk_42_method_53_1 : decode jdk_42_method_53_code 1 = .ok (.aload_n 1, 1) := by decide +kernel
theorem d_jdk_42_method_53_2 : decode jdk_42_method_53_code 2 = .ok (.aconst_null, 1) := by decide +kernel
theorem d_jdk_42_method_53_3 : decode jdk_42_method_53_code 3 = .ok (.invokespecial 489, 3) := by decide +kernel
theorem d_jdk_42_method_53_6 : decode jdk_42_method_53_code 6 = .ok (.return_, 1) := by decide +kernel
theorem d_jdk_67_method_42_0 : decode jdk_67_method_42_code 0 = .ok (.new 18, 3) := by decide +kernel
theorem d_jdk_67_method_42_3 : decode jdk_67_method_42_code 3 = .ok (.dup, 1) := by decide +kernel
theorem d_jdk_67_method_42_4 : decode jdk_67_method_42_code 4 = .ok (.aload_n 0, 1) := by decide +kernel
theorem d_jdk_67_method_42_5 : decode jdk_67_method_42_code 5 = .ok (.invokespecial 137, 3) := by decide +kernel
theorem d_jdk_67_method_42_8 : decode jdk_67_method_42_code 8 = .ok (.areturn, 1) := by decide +kernel
theorem d_prog_8_method_1_0 : decode prog_8_method_1_code 0 = .ok (.aload_n 0, 1) := by decide +kernel
theorem d_prog_8_method_1_1 : decode prog_8_method_1_code 1 = .ok (.invokespecial 1, 3) := by decide +kernel
theorem d_prog_8_method_1_4 : decode prog_8_method_1_code 4 = .ok (.aload_n 0, 1) := by decide +kernel
theorem d_prog_8_method_1_5 : decode prog_8_method_1_code 5 = .ok (.bipush 16, 2) := by decide +kernel
theorem d_prog_8_method_1_7 : decode prog_8_method_1_code 7 = .ok (.newarray .int, 2) := by decide +kernel
theorem d_prog_8_method_1_9 : decode prog_8_method_1_code 9 = .ok (.putfield 9, 3) := by decide +kernel
theorem d_prog_8_method_1_12 : decode prog_8_method_1_code 12 = .ok (.aload_n 0, 1) := by decide +kernel
theorem d_prog_8_method_1_13 : decode prog_8_method_1_code 13 = .ok (.aload_n 1, 1) := by decide +kernel
theorem d_prog_8_method_1_14 : decode prog_8_method_1_code 14 = .ok (.putfield 13, 3) := by decide +kernel
theorem d_prog_8_method_1_17 : decode prog_8_method_1_code 17 = .ok (.aload_n 0, 1) := by decide +kernel
theorem d_prog_8_method_1_18 : decode prog_8_method_1_code 18 = .ok (.iload_n 2, 1) := by decide +kernel
theorem d_prog_8_method_1_19 : decode prog_8_method_1_code 19 = .ok (.putfield 17, 3) := by decide +kernel
theorem d_prog_8_method_1_22 : decode prog_8_method_1_code 22 = .ok (.aload_n 0, 1) := by decide +kernel
theorem d_prog_8_method_1_23 : decode prog_8_method_1_code 23 = .ok (.iload_n 2, 1) := by decide +kernel
theorem d_prog_8_method_1_24 : decode prog_8_method_1_code 24 = .ok (.putfield 21, 3) := by decide +kernel
theorem d_prog_8_method_1_27 : decode prog_8_method_1_code 27 = .ok (.return_, 1) := by decide +kernel
theorem d_prog_8_method_5_0 : decode prog_8_method_5_code 0 = .ok (.aload_n 0, 1) := by decide +kernel
theorem d_prog_8_method_5_1 : decode prog_8_method_5_code 1 = .ok (.iload_n 1, 1) := by decide +kernel
theorem d_prog_8_method_5_2 : decode prog_8_method_5_code 2 = .ok (.putfield 21, 3) := by decide +kernel
theorem d_prog_8_method_5_5 : decode prog_8_method_5_code 5 = .ok (.aload_n 0, 1) := by decide +kernel
theorem d_prog_8_method_5_6 : decode prog_8_method_5_code 6 = .ok (.iload_n 2, 1) := by decide +kernel
theorem d_prog_8_method_5_7 : decode prog_8_method_5_code 7 = .ok (.putfield 61, 3) := by decide +kernel
theorem d_prog_8_method_5_10 : decode prog_8_method_5_code 10 = .ok (.aload_n 0, 1) := by decide +kernel
theorem d_prog_8_method_5_11 : decode prog_8_method_5_code 11 = .ok (.areturn, 1) := by decide +kernel
theorem d_prog_8_method_4_0 : decode prog_8_method_4_code 0 = .ok (.aload_n 0, 1) := by decide +kernel
theorem d_prog_8_method_4_1 : decode prog_8_method_4_code 1 = .ok (.iload_n 1, 1) := by decide +kernel
theorem d_prog_8_method_4_2 : decode prog_8_method_4_code 2 = .ok (.iconst 0, 1) := by decide +kernel
theorem d_prog_8_method_4_3 : decode prog_8_method_4_code 3 = .ok (.invokevirtual 58, 3) := by decide +kernel
theorem d_prog_8_method_4_6 : decode prog_8_method_4_code 6 = .ok (.areturn, 1) := by decide +kernel
theorem d_prog_8_method_8_0 : decode prog_8_method_8_code 0 = .ok (.aload_n 0, 1) := by decide +kernel
theorem d_prog_8_method_8_1 : decode prog_8_method_8_code 1 = .ok (.getfield 21, 3) := by decide +kernel
theorem d_prog_8_method_8_4 : decode prog_8_method_8_code 4 = .ok (.aload_n 0, 1) := by decide +kernel
theorem d_prog_8_method_8_5 : decode prog_8_method_8_code 5 = .ok (.getfield 17, 3) := by decide +kernel
theorem d_prog_8_method_8_8 : decode prog_8_method_8_code 8 = .ok (.isub, 1) := by decide +kernel
theorem d_prog_8_method_8_9 : decode prog_8_method_8_code 9 = .ok (.aload_n 0, 1) := by decide +kernel
theorem d_prog_8_method_8_10 : decode prog_8_method_8_code 10 = .ok (.getfield 61, 3) := by decide +kernel
theorem d_prog_8_method_8_13 : decode prog_8_method_8_code 13 = .ok (.isub, 1) := by decide +kernel
theorem d_prog_8_method_8_14 : decode prog_8_method_8_code 14 = .ok (.ireturn, 1) := by decide +kernel
theorem d_prog_8_method_3_0 : decode prog_8_method_3_code 0 = .ok (.iconst 2, 1) := by decide +kernel
theorem d_prog_8_method_3_1 : decode prog_8_method_3_code 1 = .ok (.aload_n 0, 1) := by decide +kernel
theorem d_prog_8_method_3_2 : decode prog_8_method_3_code 2 = .ok (.getfield 49, 3) := by decide +kernel
theorem d_prog_8_method_3_5 : decode prog_8_method_3_code 5 = .ok (.imul, 1) := by decide +kernel
theorem d_prog_8_method_3_6 : decode prog_8_method_3_code 6 = .ok (.aload_n 0, 1) := by decide +kernel
theorem d_prog_8_method_3_7 : decode prog_8_method_3_code 7 = .ok (.getfield 9, 3) := by decide +kernel
theorem d_prog_8_method_3_10 : decode prog_8_method_3_code 10 = .ok (.arraylength, 1) := by decide +kernel
theorem d_prog_8_method_3_11 : decode prog_8_method_3_code 11 = .ok (.if_icmp .ne 21, 3) := by decide +kernel
theorem d_prog_8_method_3_32 : decode prog_8_method_3_code 32 = .ok (.aload_n 0, 1) := by decide +kernel
theorem d_prog_8_method_3_33 : decode prog_8_method_3_code 33 = .ok (.getfield 9, 3) := by decide +kernel
theorem d_prog_8_method_3_36 : decode prog_8_method_3_code 36 = .ok (.iconst 2, 1) := by decide +kernel
theorem d_prog_8_method_3_37 : decode prog_8_method_3_code 37 = .ok (.aload_n 0, 1) := by decide +kernel
theorem d_prog_8_method_3_38 : decode prog_8_method_3_code 38 = .ok (.getfield 49, 3) := by decide +kernel
theorem d_prog_8_method_3_41 : decode prog_8_method_3_code 41 = .ok (.imul, 1) := by decide +kernel
theorem d_prog_8_method_3_42 : decode prog_8_method_3_code 42 = .ok (.iload_n 1, 1) := by decide +kernel
theorem d_prog_8_method_3_43 : decode prog_8_method_3_code 43 = .ok (.iastore, 1) := by decide +kernel
theorem d_prog_8_method_3_44 : decode prog_8_method_3_code 44 = .ok (.aload_n 0, 1) := by decide +kernel
theorem d_prog_8_method_3_45 : decode prog_8_method_3_code 45 = .ok (.getfield 9, 3) := by decide +kernel
theorem d_prog_8_method_3_48 : decode prog_8_method_3_code 48 = .ok (.iconst 2, 1) := by decide +kernel
theorem d_prog_8_method_3_49 : decode prog_8_method_3_code 49 = .ok (.aload_n 0, 1) := by decide +kernel
theorem d_prog_8_method_3_50 : decode prog_8_method_3_code 50 = .ok (.getfield 49, 3) := by decide +kernel
theorem d_prog_8_method_3_53 : decode prog_8_method_3_code 53 = .ok (.imul, 1) := by decide +kernel
theorem d_prog_8_method_3_54 : decode prog_8_method_3_code 54 = .ok (.iconst 1, 1) := by decide +kernel
theorem d_prog_8_method_3_55 : decode prog_8_method_3_code 55 = .ok (.iadd, 1) := by decide +kernel
theorem d_prog_8_method_3_56 : decode prog_8_method_3_code 56 = .ok (.iload_n 2, 1) := by decide +kernel
theorem d_prog_8_method_3_57 : decode prog_8_method_3_code 57 = .ok (.iastore, 1) := by decide +kernel
theorem d_prog_8_method_3_58 : decode prog_8_method_3_code 58 = .ok (.aload_n 0, 1) := by decide +kernel
theorem d_prog_8_method_3_59 : decode prog_8_method_3_code 59 = .ok (.dup, 1) := by decide +kernel
theorem d_prog_8_method_3_60 : decode prog_8_method_3_code 60 = .ok (.getfield 49, 3) := by decide +kernel
theorem d_prog_8_method_3_63 : decode prog_8_method_3_code 63 = .ok (.iconst 1, 1) := by decide +kernel
theorem d_prog_8_method_3_64 : decode prog_8_method_3_code 64 = .ok (.iadd, 1) := by decide +kernel
theorem d_prog_8_method_3_65 : decode prog_8_method_3_code 65 = .ok (.putfield 49, 3) := by decide +kernel
theorem d_prog_8_method_3_68 : decode prog_8_method_3_code 68 = .ok (.return_, 1) := by decide +kernel
theorem d_prog_8_method_11_0 : decode prog_8_method_11_code 0 = .ok (.aload_n 0, 1) := by decide +kernel
theorem d_prog_8_method_11_1 : decode prog_8_method_11_code 1 = .ok (.getfield 9, 3) := by decide +kernel
theorem d_prog_8_method_11_4 : decode prog_8_method_11_code 4 = .ok (.iconst 2, 1) := by decide +kernel
theorem d_prog_8_method_11_5 : decode prog_8_method_11_code 5 = .ok (.iload_n 1, 1) := by decide +kernel
theorem d_prog_8_method_11_6 : decode prog_8_method_11_code 6 = .ok (.imul, 1) := by decide +kernel
theorem d_prog_8_method_11_7 : decode prog_8_method_11_code 7 = .ok (.iaload, 1) := by decide +kernel
theorem d_prog_8_method_11_8 : decode prog_8_method_11_code 8 = .ok (.ireturn, 1) := by decide +kernel
theorem d_prog_8_method_12_0 : decode prog_8_method_12_code 0 = .ok (.aload_n 0, 1) := by decide +kernel
theorem d_prog_8_method_12_1 : decode prog_8_method_12_code 1 = .ok (.getfield 9, 3) := by decide +kernel
theorem d_prog_8_method_12_4 : decode prog_8_method_12_code 4 = .ok (.iconst 2, 1) := by decide +kernel
theorem d_prog_8_method_12_5 : decode prog_8_method_12_code 5 = .ok (.iload_n 1, 1) := by decide +kernel
theorem d_prog_8_method_12_6 : decode prog_8_method_12_code 6 = .ok (.imul, 1) := by decide +kernel
theorem d_prog_8_method_12_7 : decode prog_8_method_12_code 7 = .ok (.iconst 1, 1) := by decide +kernel
theorem d_prog_8_method_12_8 : decode prog_8_method_12_code 8 = .ok (.iadd, 1) := by decide +kernel
theorem d_prog_8_method_12_9 : decode prog_8_method_12_code 9 = .ok (.iaload, 1) := by decide +kernel
theorem d_prog_8_method_12_10 : decode prog_8_method_12_code 10 = .ok (.ireturn, 1) := by decide +kernel
theorem d_prog_8_method_15_0 : decode prog_8_method_15_code 0 = .ok (.aload_n 0, 1) := by decide +kernel
theorem d_prog_8_method_15_1 : decode prog_8_method_15_code 1 = .ok (.getfield 17, 3) := by decide +kernel
theorem d_prog_8_method_15_4 : decode prog_8_method_15_code 4 = .ok (.aload_n 0, 1) := by decide +kernel
theorem d_prog_8_method_15_5 : decode prog_8_method_15_code 5 = .ok (.getfield 21, 3) := by decide +kernel
theorem d_prog_8_method_15_8 : decode prog_8_method_15_code 8 = .ok (.if_icmp .ge 25, 3) := by decide +kernel
theorem d_prog_8_method_15_11 : decode prog_8_method_15_code 11 = .ok (.aload_n 0, 1) := by decide +kernel
theorem d_prog_8_method_15_12 : decode prog_8_method_15_code 12 = .ok (.getfield 13, 3) := by decide +kernel
theorem d_prog_8_method_15_15 : decode prog_8_method_15_code 15 = .ok (.aload_n 0, 1) := by decide +kernel
theorem d_prog_8_method_15_16 : decode prog_8_method_15_code 16 = .ok (.getfield 21, 3) := by decide +kernel
theorem d_prog_8_method_15_19 : decode prog_8_method_15_code 19 = .ok (.iconst 1, 1) := by decide +kernel
theorem d_prog_8_method_15_20 : decode prog_8_method_15_code 20 = .ok (.isub, 1) := by decide +kernel
theorem d_prog_8_method_15_21 : decode prog_8_method_15_code 21 = .ok (.invokevirtual 64, 3) := by decide +kernel
theorem d_prog_8_method_15_24 : decode prog_8_method_15_code 24 = .ok (.bipush 47, 2) := by decide +kernel
theorem d_prog_8_method_15_26 : decode prog_8_method_15_code 26 = .ok (.if_icmp .ne 7, 3) := by decide +kernel
theorem d_prog_8_method_15_33 : decode prog_8_method_15_code 33 = .ok (.iconst 0, 1) := by decide +kernel
theorem d_prog_8_method_15_34 : decode prog_8_method_15_code 34 = .ok (.ireturn, 1) := by decide +kernel
theorem d_prog_8_method_9_0 : decode prog_8_method_9_code 0 = .ok (.aload_n 0, 1) := by decide +kernel
theorem d_prog_8_method_9_1 : decode prog_8_method_9_code 1 = .ok (.getfield 61, 3) := by decide +kernel
theorem d_prog_8_method_9_4 : decode prog_8_method_9_code 4 = .ok (.ifCond .ne 47, 3) := by decide +kernel
theorem d_prog_8_method_9_7 : decode prog_8_method_9_code 7 = .ok (.aload_n 0, 1) := by decide +kernel
theorem d_prog_8_method_9_8 : decode prog_8_method_9_code 8 = .ok (.getfield 17, 3) := by decide +kernel
theorem d_prog_8_method_9_11 : decode prog_8_method_9_code 11 = .ok (.ifCond .ne 24, 3) := by decide +kernel
theorem d_prog_8_method_9_14 : decode prog_8_method_9_code 14 = .ok (.aload_n 0, 1) := by decide +kernel
theorem d_prog_8_method_9_15 : decode prog_8_method_9_code 15 = .ok (.getfield 21, 3) := by decide +kernel
theorem d_prog_8_method_9_18 : decode prog_8_method_9_code 18 = .ok (.aload_n 0, 1) := by decide +kernel
theorem d_prog_8_method_9_19 : decode prog_8_method_9_code 19 = .ok (.getfield 13, 3) := by decide +kernel
theorem d_prog_8_method_9_22 : decode prog_8_method_9_code 22 = .ok (.invokevirtual 31, 3) := by decide +kernel
theorem d_prog_8_method_9_25 : decode prog_8_method_9_code 25 = .ok (.if_icmp .ne 10, 3) := by decide +kernel
theorem d_prog_8_method_9_28 : decode prog_8_method_9_code 28 = .ok (.aload_n 0, 1) := by decide +kernel
theorem d_prog_8_method_9_29 : decode prog_8_method_9_code 29 = .ok (.getfield 13, 3) := by decide +kernel
theorem d_prog_8_method_9_32 : decode prog_8_method_9_code 32 = .ok (.goto 18, 3) := by decide +kernel
theorem d_prog_8_method_9_35 : decode prog_8_method_9_code 35 = .ok (.aload_n 0, 1) := by decide +kernel
theorem d_prog_8_method_9_36 : decode prog_8_method_9_code 36 = .ok (.getfield 13, 3) := by decide +kernel
theorem d_prog_8_method_9_39 : decode prog_8_method_9_code 39 = .ok (.aload_n 0, 1) := by decide +kernel
theorem d_prog_8_method_9_40 : decode prog_8_method_9_code 40 = .ok (.getfield 17, 3) := by decide +kernel
theorem d_prog_8_method_9_43 : decode prog_8_method_9_code 43 = .ok (.aload_n 0, 1) := by decide +kernel
theorem d_prog_8_method_9_44 : decode prog_8_method_9_code 44 = .ok (.getfield 21, 3) := by decide +kernel
theorem d_prog_8_method_9_47 : decode prog_8_method_9_code 47 = .ok (.invokevirtual 68, 3) := by decide +kernel
theorem d_prog_8_method_9_50 : decode prog_8_method_9_code 50 = .ok (.areturn, 1) := by decide +kernel
theorem d_prog_8_method_9_51 : decode prog_8_method_9_code 51 = .ok (.new 72, 3) := by decide +kernel
theorem d_prog_8_method_9_54 : decode prog_8_method_9_code 54 = .ok (.dup, 1) := by decide +kernel
theorem d_prog_8_method_9_55 : decode prog_8_method_9_code 55 = .ok (.aload_n 0, 1) := by decide +kernel
theorem d_prog_8_method_9_56 : decode prog_8_method_9_code 56 = .ok (.invokevirtual 74, 3) := by decide +kernel
theorem d_prog_8_method_9_59 : decode prog_8_method_9_code 59 = .ok (.invokespecial 75, 3) := by decide +kernel
theorem d_prog_8_method_9_62 : decode prog_8_method_9_code 62 = .ok (.astore_n 1, 1) := by decide +kernel
theorem d_prog_8_method_9_63 : decode prog_8_method_9_code 63 = .ok (.iconst 0, 1) := by decide +kernel
theorem d_prog_8_method_9_64 : decode prog_8_method_9_code 64 = .ok (.istore_n 2, 1) := by decide +kernel
theorem d_prog_8_method_9_65 : decode prog_8_method_9_code 65 = .ok (.iload_n 2, 1) := by decide +kernel
theorem d_prog_8_method_9_66 : decode prog_8_method_9_code 66 = .ok (.aload_n 0, 1) := by decide +kernel
theorem d_prog_8_method_9_67 : decode prog_8_method_9_code 67 = .ok (.getfield 49, 3) := by decide +kernel
theorem d_prog_8_method_9_70 : decode prog_8_method_9_code 70 = .ok (.if_icmp .ge 33, 3) := by decide +kernel
theorem d_prog_8_method_9_73 : decode prog_8_method_9_code 73 = .ok (.aload_n 1, 1) := by decide +kernel
theorem d_prog_8_method_9_74 : decode prog_8_method_9_code 74 = .ok (.bipush 47, 2) := by decide +kernel
theorem d_prog_8_method_9_76 : decode prog_8_method_9_code 76 = .ok (.invokevirtual 78, 3) := by decide +kernel
theorem d_prog_8_method_9_79 : decode prog_8_method_9_code 79 = .ok (.aload_n 0, 1) := by decide +kernel
theorem d_prog_8_method_9_80 : decode prog_8_method_9_code 80 = .ok (.getfield 13, 3) := by decide +kernel
theorem d_prog_8_method_9_83 : decode prog_8_method_9_code 83 = .ok (.aload_n 0, 1) := by decide +kernel
theorem d_prog_8_method_9_84 : decode prog_8_method_9_code 84 = .ok (.iload_n 2, 1) := by decide +kernel
theorem d_prog_8_method_9_85 : decode prog_8_method_9_code 85 = .ok (.invokevirtual 82, 3) := by decide +kernel
theorem d_prog_8_method_9_88 : decode prog_8_method_9_code 88 = .ok (.aload_n 0, 1) := by decide +kernel
theorem d_prog_8_method_9_89 : decode prog_8_method_9_code 89 = .ok (.iload_n 2, 1) := by decide +kernel
theorem d_prog_8_method_9_90 : decode prog_8_method_9_code 90 = .ok (.invokevirtual 86, 3) := by decide +kernel
theorem d_prog_8_method_9_93 : decode prog_8_method_9_code 93 = .ok (.invokevirtual 89, 3) := by decide +kernel
theorem d_prog_8_method_9_96 : decode prog_8_method_9_code 96 = .ok (.pop, 1) := by decide +kernel
theorem d_prog_8_method_9_97 : decode prog_8_method_9_code 97 = .ok (.iinc 2 1, 3) := by decide +kernel
theorem d_prog_8_method_9_100 : decode prog_8_method_9_code 100 = .ok (.goto (-35), 3) := by decide +kernel
theorem d_prog_8_method_9_103 : decode prog_8_method_9_code 103 = .ok (.aload_n 0, 1) := by decide +kernel
theorem d_prog_8_method_9_104 : decode prog_8_method_9_code 104 = .ok (.invokevirtual 92, 3) := by decide +kernel
theorem d_prog_8_method_9_107 : decode prog_8_method_9_code 107 = .ok (.ifCond .eq 10, 3) := by decide +kernel
theorem d_prog_8_method_9_117 : decode prog_8_method_9_code 117 = .ok (.aload_n 1, 1) := by decide +kernel
theorem d_prog_8_method_9_118 : decode prog_8_method_9_code 118 = .ok (.invokevirtual 96, 3) := by decide +kernel
theorem d_prog_8_method_9_121 : decode prog_8_method_9_code 121 = .ok (.areturn, 1) := by decide +kernel
theorem d_method_2_0 : decode method_2_code 0 = .ok (.iload_n 0, 1) := by decide +kernel
theorem d_method_2_1 : decode method_2_code 1 = .ok (.sipush 255, 3) := by decide +kernel
theorem d_method_2_4 : decode method_2_code 4 = .ok (.iand, 1) := by decide +kernel
theorem d_method_2_5 : decode method_2_code 5 = .ok (.i2c, 1) := by decide +kernel
theorem d_method_2_6 : decode method_2_code 6 = .ok (.istore_n 1, 1) := by decide +kernel
theorem d_method_2_7 : decode method_2_code 7 = .ok (.iload_n 1, 1) := by decide +kernel
theorem d_method_2_8 : decode method_2_code 8 = .ok (.bipush 47, 2) := by decide +kernel
theorem d_method_2_10 : decode method_2_code 10 = .ok (.if_icmp .ne 6, 3) := by decide +kernel
theorem d_method_2_13 : decode method_2_code 13 = .ok (.bipush 120, 2) := by decide +kernel
theorem d_method_2_15 : decode method_2_code 15 = .ok (.ireturn, 1) := by decide +kernel
theorem d_method_2_16 : decode method_2_code 16 = .ok (.iload_n 1, 1) := by decide +kernel
theorem d_method_2_17 : decode method_2_code 17 = .ok (.ireturn, 1) := by decide +kernel
theorem d_method_3_0 : decode method_3_code 0 = .ok (.iload_n 0, 1) := by decide +kernel
theorem d_method_3_1 : decode method_3_code 1 = .ok (.ifCond .ne 5, 3) := by decide +kernel
theorem d_method_3_4 : decode method_3_code 4 = .ok (.iload_n 3, 1) := by decide +kernel
theorem d_method_3_5 : decode method_3_code 5 = .ok (.ireturn, 1) := by decide +kernel
theorem d_method_3_6 : decode method_3_code 6 = .ok (.iload_n 0, 1) := by decide +kernel
theorem d_method_3_7 : decode method_3_code 7 = .ok (.iload_n 1, 1) := by decide +kernel
theorem d_method_3_8 : decode method_3_code 8 = .ok (.if_icmp .gt 6, 3) := by decide +kernel
theorem d_method_3_11 : decode method_3_code 11 = .ok (.bipush 47, 2) := by decide +kernel
theorem d_method_3_13 : decode method_3_code 13 = .ok (.ireturn, 1) := by decide +kernel
theorem d_method_3_14 : decode method_3_code 14 = .ok (.iload_n 0, 1) := by decide +kernel
theorem d_method_3_15 : decode method_3_code 15 = .ok (.iconst 1, 1) := by decide +kernel
theorem d_method_3_16 : decode method_3_code 16 = .ok (.iload_n 1, 1) := by decide +kernel
theorem d_method_3_17 : decode method_3_code 17 = .ok (.iadd, 1) := by decide +kernel
theorem d_method_3_18 : decode method_3_code 18 = .ok (.if_icmp .ne 6, 3) := by decide +kernel
theorem d_method_3_21 : decode method_3_code 21 = .ok (.iload 4, 2) := by decide +kernel
theorem d_method_3_23 : decode method_3_code 23 = .ok (.ireturn, 1) := by decide +kernel
theorem d_method_3_24 : decode method_3_code 24 = .ok (.iload_n 0, 1) := by decide +kernel
theorem d_method_3_25 : decode method_3_code 25 = .ok (.iconst 1, 1) := by decide +kernel
theorem d_method_3_26 : decode method_3_code 26 = .ok (.iload_n 1, 1) := by decide +kernel
theorem d_method_3_27 : decode method_3_code 27 = .ok (.iadd, 1) := by decide +kernel
theorem d_method_3_28 : decode method_3_code 28 = .ok (.iload_n 2, 1) := by decide +kernel
theorem d_method_3_29 : decode method_3_code 29 = .ok (.iadd, 1) := by decide +kernel
theorem d_method_3_30 : decode method_3_code 30 = .ok (.if_icmp .gt 6, 3) := by decide +kernel
theorem d_method_3_33 : decode method_3_code 33 = .ok (.bipush 47, 2) := by decide +kernel
theorem d_method_3_35 : decode method_3_code 35 = .ok (.ireturn, 1) := by decide +kernel
theorem d_method_3_36 : decode method_3_code 36 = .ok (.iload_n 0, 1) := by decide +kernel
theorem d_method_3_37 : decode method_3_code 37 = .ok (.iconst 2, 1) := by decide +kernel
theorem d_method_3_38 : decode method_3_code 38 = .ok (.iload_n 1, 1) := by decide +kernel
theorem d_method_3_39 : decode method_3_code 39 = .ok (.iadd, 1) := by decide +kernel
theorem d_method_3_40 : decode method_3_code 40 = .ok (.iload_n 2, 1) := by decide +kernel
theorem d_method_3_41 : decode method_3_code 41 = .ok (.iadd, 1) := by decide +kernel
theorem d_method_3_42 : decode method_3_code 42 = .ok (.if_icmp .ne 6, 3) := by decide +kernel
theorem d_method_3_45 : decode method_3_code 45 = .ok (.iload 5, 2) := by decide +kernel
theorem d_method_3_47 : decode method_3_code 47 = .ok (.ireturn, 1) := by decide +kernel
theorem d_method_3_48 : decode method_3_code 48 = .ok (.iload 6, 2) := by decide +kernel
theorem d_method_3_50 : decode method_3_code 50 = .ok (.ireturn, 1) := by decide +kernel
theorem pd_0 : parseMethodDescriptor "(IIILjava/util/function/BiFunction;)I" = some ⟨[.int, .int, .int, (.object "java/util/function/BiFunction")], some .int⟩ := by decide +kernel
theorem pd_1 : parseMethodDescriptor "(II)V" = some ⟨[.int, .int], none⟩ := by decide +kernel
theorem pd_2 : parseMethodDescriptor "(II)I" = some ⟨[.int, .int], some .int⟩ := by decide +kernel
theorem pd_3 : parseMethodDescriptor "([BII)[B" = some ⟨[(.array .byte), .int, .int], some (.array .byte)⟩ := by decide +kernel
theorem pd_4 : parseMethodDescriptor "([BB)V" = some ⟨[(.array .byte), .byte], none⟩ := by decide +kernel
theorem pd_5 : parseMethodDescriptor "()I" = some ⟨[], some .int⟩ := by decide +kernel
theorem pd_6 : parseMethodDescriptor "(III)V" = some ⟨[.int, .int, .int], none⟩ := by decide +kernel
theorem pd_7 : parseMethodDescriptor "()Z" = some ⟨[], some .boolean⟩ := by decide +kernel
theorem pd_8 : parseMethodDescriptor "([BII)Ljava/lang/String;" = some ⟨[(.array .byte), .int, .int], some (.object "java/lang/String")⟩ := by decide +kernel
theorem pd_9 : parseMethodDescriptor "(I)V" = some ⟨[.int], none⟩ := by decide +kernel
theorem pd_10 : parseMethodDescriptor "(C)Z" = some ⟨[.char], some .boolean⟩ := by decide +kernel
theorem pd_11 : parseMethodDescriptor "(C)Ljava/lang/AbstractStringBuilder;" = some ⟨[.char], some (.object "java/lang/AbstractStringBuilder")⟩ := by decide +kernel
theorem pd_12 : parseMethodDescriptor "()[B" = some ⟨[], some (.array .byte)⟩ := by decide +kernel
theorem pd_13 : parseMethodDescriptor "(Ljava/lang/String;II)V" = some ⟨[(.object "java/lang/String"), .int, .int], none⟩ := by decide +kernel
theorem pd_14 : parseMethodDescriptor "(Ljava/lang/CharSequence;II)Ljava/lang/AbstractStringBuilder;" = some ⟨[(.object "java/lang/CharSequence"), .int, .int], some (.object "java/lang/AbstractStringBuilder")⟩ := by decide +kernel
theorem pd_15 : parseMethodDescriptor "(Ljava/lang/AbstractStringBuilder;Ljava/lang/Void;)V" = some ⟨[(.object "java/lang/AbstractStringBuilder"), (.object "java/lang/Void")], none⟩ := by decide +kernel
theorem pd_16 : parseMethodDescriptor "(Ljava/lang/StringBuilder;)V" = some ⟨[(.object "java/lang/StringBuilder")], none⟩ := by decide +kernel
theorem pd_17 : parseMethodDescriptor "(II)Lgatelayer/PathSegments;" = some ⟨[.int, .int], some (.object "gatelayer/PathSegments")⟩ := by decide +kernel
theorem pd_18 : parseMethodDescriptor "(I)C" = some ⟨[.int], some .char⟩ := by decide +kernel
theorem pd_19 : parseMethodDescriptor "(II)Ljava/lang/String;" = some ⟨[.int, .int], some (.object "java/lang/String")⟩ := by decide +kernel
theorem pd_20 : parseMethodDescriptor "(C)Ljava/lang/StringBuilder;" = some ⟨[.char], some (.object "java/lang/StringBuilder")⟩ := by decide +kernel
theorem pd_21 : parseMethodDescriptor "(I)I" = some ⟨[.int], some .int⟩ := by decide +kernel
theorem pd_22 : parseMethodDescriptor "(Ljava/lang/CharSequence;II)Ljava/lang/StringBuilder;" = some ⟨[(.object "java/lang/CharSequence"), .int, .int], some (.object "java/lang/StringBuilder")⟩ := by decide +kernel
theorem pd_23 : parseMethodDescriptor "()Ljava/lang/String;" = some ⟨[], some (.object "java/lang/String")⟩ := by decide +kernel
theorem pd_24 : parseMethodDescriptor "([C)V" = some ⟨[(.array .char)], none⟩ := by decide +kernel
theorem pd_25 : parseMethodDescriptor "(Ljava/lang/String;I)V" = some ⟨[(.object "java/lang/String"), .int], none⟩ := by decide +kernel
theorem pd_26 : parseMethodDescriptor "(I)Lgatelayer/PathSegments;" = some ⟨[.int], some (.object "gatelayer/PathSegments")⟩ := by decide +kernel
theorem pd_27 : parseMethodDescriptor "(IIICCCC)C" = some ⟨[.int, .int, .int, .char, .char, .char, .char], some .char⟩ := by decide +kernel
def ok (x : Int32) : Prop := ¬ x < 0 ∧ ¬ (255 : Int32) < x
theorem ok_of {x : Int32} (h0 : 0 ≤ x.toInt) (h1 : x.toInt ≤ 255) : ok x := by
  unfold ok
  rw [Int32.lt_iff_toInt_lt, Int32.lt_iff_toInt_lt]
  have e1 : (255 : Int32).toInt = 255 := rfl
  have e0 : (0 : Int32).toInt = 0 := rfl
  omega
theorem ok_to {x : Int32} (h : ok x) : 0 ≤ x.toInt ∧ x.toInt ≤ 255 := by
  have hi := h.2
  have h0 := h.1
  rw [Int32.lt_iff_toInt_lt] at h0 hi
  have e1 : (255 : Int32).toInt = 255 := rfl
  have e0 : (0 : Int32).toInt = 0 := rfl
  omega
theorem own_ok (x : Int32) : ok (x &&& 255) := by
  have h := c_and x 255 (by decide)
  exact ok_of h.1 h.2
theorem own_nar {x : Int32} (h : ok x) : nar .char x = x := by
  have q := c_i2c x
  have r := ok_to h
  exact Int32.toInt_inj.mp (by show x.toUInt32.toUInt16.toUInt32.toInt32.toInt = x.toInt; omega)
theorem own_lt : ∀ f, f < 8 → ∀ e, e < 8 → (Int32.ofNat f < Int32.ofNat e ↔ f < e) := by decide
theorem own_cl : ∀ e, e < 8 → (Int32.ofNat e).toNatClampNeg = e := by decide
theorem own_nn : ∀ e, e < 8 → ¬ (Int32.ofNat e < 0) := by decide
theorem own_sb : ∀ t, t < 8 → ∀ f, f < 8 → f ≤ t → Int32.ofNat t - Int32.ofNat f = Int32.ofNat (t - f) := by decide
theorem own_k0 : ∀ k, k < 8 → Int32.ofNat k = 0 → k = 0 := by decide
theorem own_inj : ∀ k, k < 8 → ∀ n, n < 8 → Int32.ofNat k = Int32.ofNat n → k = n := by decide
theorem own_ofn (n f : Nat) : Int32.ofNat n + Int32.ofNat f = Int32.ofNat (n + f) := (Int32.ofNat_add n f).symm
theorem own_get {cs : List Int32} {dv : Value} {j : Nat} (h : j < cs.length) : (cs.map Value.int).getD j dv = .int (cs.getD j 0) := by
  rw [List.getD_eq_getElem?_getD, List.getD_eq_getElem?_getD, List.getElem?_map, List.getElem?_eq_getElem h]; rfl
theorem own_ref {v : Value} (h : v.isRef = true) : v = .null ∨ ∃ r, v = .ref r := by
  cases v <;> first | exact Or.inl rfl | exact Or.inr ⟨_, rfl⟩ | cases h
theorem own_eq {a b : Int32} (h : ¬ a < b) (h' : ¬ b < a) : a = b := by
  rw [Int32.lt_iff_toInt_lt] at h h'
  exact Int32.toInt_inj.mp (by omega)
theorem getD_lt {α : Type} (d : α) {l : List α} {i : Nat} (h : i < l.length) : l.getD i d = l[i] := by
  rw [List.getD_eq_getElem?_getD, List.getElem?_eq_getElem h]; rfl
theorem sub_len {α : Type} {cs : List α} {f k : Nat} (h : f + k ≤ cs.length) : ((cs.drop f).take k).length = k := by
  rw [List.length_take, List.length_drop]; omega
theorem sub_get {α : Type} {vs : List α} {dv : α} {f k : Nat} (h : f + k ≤ vs.length) : (List.range k).map (fun i => vs.getD (f + i) dv) = (vs.drop f).take k := by
  apply List.ext_getElem
  · rw [List.length_map, List.length_range, sub_len h]
  · intro i h1 h2
    rw [List.length_map, List.length_range] at h1
    rw [List.getElem_map, List.getElem_range, List.getElem_take, List.getElem_drop, getD_lt dv (by omega)]
theorem get_sub {cs : List Int32} {f k j : Nat} (h : f + k ≤ cs.length) (hj : j < k) : ((cs.drop f).take k).getD j 0 = cs.getD (f + j) 0 := by
  rw [getD_lt 0 (by rw [sub_len h]; exact hj), getD_lt 0 (by omega), List.getElem_take, List.getElem_drop]
theorem ok_get {cs : List Int32} {j : Nat} (hp : ∀ c ∈ cs, ¬ c < 0 ∧ ¬ (255 : Int32) < c) (h : j < cs.length) : ok (cs.getD j 0) := by
  rw [getD_lt 0 h]; exact hp _ (List.getElem_mem h)
theorem copied {vs : List Value} {dv d0 : Value} {f k : Nat} (h : f + k ≤ vs.length) : (List.replicate k d0).take 0 ++ (List.range k).map (fun i => vs.getD (f + i) dv) ++ (List.replicate k d0).drop (0 + k) = (vs.drop f).take k := by
  rw [sub_get h]; simp
theorem lat_sub (cs : List Int32) (f k : Nat) : ((lat cs).drop f).take k = lat ((cs.drop f).take k) := by
  simp only [lat, List.map_drop, List.map_take]
theorem lat_len (cs : List Int32) : (lat cs).length = cs.length := by simp [lat]
theorem own_rem {x d : Int32} {k : Nat} (hx : 0 ≤ x.toInt) (hk : k ≤ 4) (hd : d = Int32.ofNat (k + 1)) : ∃ r, r ≤ k ∧ x % d = Int32.ofNat r := by
  subst hd
  have e : (Int32.ofNat (k + 1)).toInt = k + 1 := by
    have : k = 0 ∨ k = 1 ∨ k = 2 ∨ k = 3 ∨ k = 4 := by omega
    rcases this with rfl | rfl | rfl | rfl | rfl <;> rfl
  have q := (c_irem x (Int32.ofNat (k + 1)) (k + 1) e).1 hx
  have hr0 : 0 ≤ x.toInt % ((k : Int) + 1) := Int.emod_nonneg _ (by omega)
  have hr1 : x.toInt % ((k : Int) + 1) < k + 1 := Int.emod_lt_of_pos _ (by omega)
  refine ⟨(x.toInt % ((k : Int) + 1)).toNat, by omega, Int32.toInt_inj.mp ?_⟩
  rw [q]
  generalize x.toInt % ((k : Int) + 1) = m at hr0 hr1
  obtain ⟨w, rfl⟩ := Int.eq_ofNat_of_zero_le hr0
  have : w = 0 ∨ w = 1 ∨ w = 2 ∨ w = 3 ∨ w = 4 := by omega
  rcases this with rfl | rfl | rfl | rfl | rfl <;> rfl
/-- a byte[] of four Latin-1 chars -/
def BB (Z : State) (h : Heap) (b : Addr) : Prop := ∃ (kb : ClassId) (cs : List Int32), cs.length = 4 ∧ (∀ c ∈ cs, ¬ c < 0 ∧ ¬ (255 : Int32) < c) ∧ Arv Z h b kb .byte (4 : Int32) (lat cs) (.int 0) ∧ Exa Z h b "[B"
/-- a StringBuilder over it, n chars in -/
def SBd (Z : State) (h : Heap) (s b : Addr) (n : Int32) : Prop := Exa Z h s "java/lang/StringBuilder" ∧ Fld Z h s "java/lang/AbstractStringBuilder" "value" "[B" (.ref b) ∧ Fld Z h s "java/lang/AbstractStringBuilder" "coder" "B" (.int (0 : Int32)) ∧ Fld Z h s "java/lang/AbstractStringBuilder" "count" "I" (.int n) ∧ BB Z h b
def Iof (Z : State) : Prop := ∃ fm : Value, Sta Z Z.heap "jdk/internal/util/Preconditions" "IOOBE_FORMATTER" "Ljava/util/function/BiFunction;" fm ∧ fm.isRef = true
def PSd (Z : State) (h : Heap) (a bd x : Addr) (kbd : ClassId) (f t d n : Int32) (vs : List Value) : Prop := Exa Z h a "gatelayer/PathSegments" ∧ Fld Z h a "gatelayer/PathSegments" "bounds" "[I" (.ref bd) ∧ Fld Z h a "gatelayer/PathSegments" "text" "Ljava/lang/String;" (.ref x) ∧ Fld Z h a "gatelayer/PathSegments" "from" "I" (.int f) ∧ Fld Z h a "gatelayer/PathSegments" "to" "I" (.int t) ∧ Fld Z h a "gatelayer/PathSegments" "dropped" "I" (.int d) ∧ Fld Z h a "gatelayer/PathSegments" "count" "I" (.int n) ∧ Arv Z h bd kbd .int (16 : Int32) vs (.int (0 : Int32))
theorem PSd.ext {Z : State} {h h' : Heap} {a bd x : Addr} {kbd : ClassId} {f t d n : Int32} {vs : List Value} (F : PSd Z h a bd x kbd f t d n vs) (E : Ext h h') : PSd Z h' a bd x kbd f t d n vs := by
  obtain ⟨h1, h2, h3, h4, h5, h6, h7, h8⟩ := F
  exact ⟨h1.ext E, h2.ext E, h3.ext E, h4.ext E, h5.ext E, h6.ext E, h7.ext E, h8.ext E⟩
theorem iof_start {s : State} {args : Array Value} (hfit : Fit s) (hi : (Cond.initialized "jdk/internal/util/Preconditions").before args s = true) (hl : (Cond.laysStatic "jdk/internal/util/Preconditions" "IOOBE_FORMATTER" "Ljava/util/function/BiFunction;").before args s = true) : Iof s := by
  have hs : State.SameShape s s := ⟨rfl, rfl, fun a c hc => ⟨c, hc, rfl, rfl, fun i v hv => by
    obtain ⟨q, rfl⟩ := Array.getElem?_eq_some_iff.mp hv
    exact hfit hc q⟩⟩
  obtain ⟨fm, e, r⟩ := isR_v (Cond.before_iff.mp (Cond.isRefStatic_sameShape (args' := args) hs (t := .object "java/util/function/BiFunction") (by decide) rfl hl))
  exact ⟨fm, Sta.start e (Or.inr ⟨hi, hl⟩), r⟩
theorem lat_set (cs : List Int32) (j : Nat) (c : Int32) : (lat cs).set j (.int (nar .byte c.toInt8.toInt32)) = lat (cs.set j c) := by
  have e : nar .byte c.toInt8.toInt32 = c.toInt8.toInt32 := by simp [nar]
  rw [e]; simp only [lat, List.map_set]
theorem ok_set {cs : List Int32} {j : Nat} {c : Int32} (hp : ∀ c ∈ cs, ¬ c < 0 ∧ ¬ (255 : Int32) < c) (hc : ok c) : ∀ d ∈ cs.set j c, ¬ d < 0 ∧ ¬ (255 : Int32) < d := fun d hd => by
  rcases List.mem_or_eq_of_mem_set hd with q | rfl
  · exact hp d q
  · exact hc
theorem lat_put {cs xs : List Int32} {j f : Nat} {dv : Value} (hf : f < xs.length) : (lat cs).take j ++ (List.range 1).map (fun i => (lat xs).getD (f + i) dv) ++ (lat cs).drop (j + 1) = lat (cs.take j ++ [xs.getD f 0] ++ cs.drop (j + 1)) := by
  have e : (lat xs).getD f dv = .int ((xs.getD f 0).toInt8.toInt32) := by
    rw [getD_lt dv (by rw [lat_len]; exact hf), getD_lt 0 hf]; simp [lat]
  have e1 : (List.range 1).map (fun i => (lat xs).getD (f + i) dv) = [(lat xs).getD f dv] := rfl
  rw [e1, e]; simp only [lat, List.map_append, List.map_take, List.map_drop, List.map_cons, List.map_nil]
theorem put_len {cs : List Int32} {j : Nat} {c : Int32} (h : cs.length = 4) (hj : j < 4) : (cs.take j ++ [c] ++ cs.drop (j + 1)).length = 4 := by
  simp only [List.length_append, List.length_take, List.length_drop, List.length_cons, List.length_nil]; omega
theorem put_ok {cs : List Int32} {j : Nat} {c : Int32} (hp : ∀ c ∈ cs, ¬ c < 0 ∧ ¬ (255 : Int32) < c) (hc : ok c) : ∀ d ∈ cs.take j ++ [c] ++ cs.drop (j + 1), ¬ d < 0 ∧ ¬ (255 : Int32) < d := fun d hd => by
  rcases List.mem_append.mp hd with q | q
  · rcases List.mem_append.mp q with q | q
    · exact hp d (List.mem_of_mem_take q)
    · cases List.mem_singleton.mp q; exact hc
  · exact hp d (List.mem_of_mem_drop q)
theorem own_cap : ∀ j, j < 4 → ¬ (0 : Int32) < Int32.ofNat j + 1 - 4 := by decide
theorem own_5 : ∀ f, f < 5 → (5 : Int32) - Int32.ofNat f = Int32.ofNat (4 - f + 1) := by decide
theorem own_z : ∀ e, e < 6 → 0 < e → ¬ (Int32.ofNat e = 0) := by decide
theorem own_nm (x : Int32) : nar .char (x &&& 255) = x &&& 255 := own_nar (own_ok x)
theorem own_b1 (x : Int32) : 1 + (x &&& 1) = 1 ∨ 1 + (x &&& 1) = 2 := by
  have h := c_and x 1 (by decide)
  have e1 : (1 : Int32).toInt = 1 := rfl
  rw [e1] at h
  have hc : (x &&& 1).toInt = 0 ∨ (x &&& 1).toInt = 1 := by omega
  rcases hc with q | q
  · left; rw [show x &&& 1 = 0 from Int32.toInt_inj.mp q]; rfl
  · right; rw [show x &&& 1 = 1 from Int32.toInt_inj.mp q]; rfl
/-- the law's at -/
def own_at (i r s p a b q : Int32) : Int32 := if i = 0 then p else if ¬ r < i then 47 else if i = 1 + r then a else if ¬ 1 + r + s < i then 47 else if i = 2 + r + s then b else q
theorem own_at_ok {p a b q : Int32} (hp : ok p) (ha : ok a) (hb : ok b) (hq : ok q) (i r s : Int32) : ok (own_at i r s p a b q) := by
  have h47 : ok 47 := ok_of (by decide) (by decide)
  unfold own_at
  split
  · exact hp
  · split
    · exact h47
    · split
      · exact ha
      · split
        · exact h47
        · split
          · exact hb
          · exact hq
theorem own_cs7 (r s p a b q : Int32) : ∀ j, j < 7 → [own_at 0 r s p a b q, own_at 1 r s p a b q, own_at 2 r s p a b q, own_at 3 r s p a b q, own_at 4 r s p a b q, own_at 5 r s p a b q, own_at 6 r s p a b q].getD j 0 = own_at (Int32.ofNat j) r s p a b q := by
  intro j hj
  have : j = 0 ∨ j = 1 ∨ j = 2 ∨ j = 3 ∨ j = 4 ∨ j = 5 ∨ j = 6 := by omega
  rcases this with rfl | rfl | rfl | rfl | rfl | rfl | rfl <;> rfl
theorem own_ok7 {p a b q : Int32} (hp : ok p) (ha : ok a) (hb : ok b) (hq : ok q) (r s : Int32) : ∀ c ∈ [own_at 0 r s p a b q, own_at 1 r s p a b q, own_at 2 r s p a b q, own_at 3 r s p a b q, own_at 4 r s p a b q, own_at 5 r s p a b q, own_at 6 r s p a b q], ¬ c < 0 ∧ ¬ (255 : Int32) < c := fun c hc => by
  have h := fun i => own_at_ok hp ha hb hq i r s
  have k : ∃ i, c = own_at i r s p a b q := by
    simp only [List.mem_cons, List.not_mem_nil, or_false] at hc
    rcases hc with e | e | e | e | e | e | e
    · exact ⟨0, e⟩
    · exact ⟨1, e⟩
    · exact ⟨2, e⟩
    · exact ⟨3, e⟩
    · exact ⟨4, e⟩
    · exact ⟨5, e⟩
    · exact ⟨6, e⟩
  obtain ⟨i, rfl⟩ := k
  exact h i

set_option maxRecDepth 65536 in
set_option maxHeartbeats 40000000 in
theorem rm_cftN (l : Launch) (Z : State) (a0 : Array Value) (hw : ∀ d ∈ tables_1, d.before a0 Z = true) (hEL : EW Z a0 consts_1) (n0 : Nat) (f t n : Int32) (h : Heap)  (h1 : ¬ f < 0) (h2 : ¬ t < f) (h3 : ¬ n < t) :
    Met l false Z consts_1 n0 (⟨"jdk/internal/util/Preconditions", "checkFromToIndex", "(IIILjava/util/function/BiFunction;)I"⟩ : MethodName) jdk_41_method_12_code 4 (some .int) ({ frames := 0, cells := 0, slots := 0, locals := 0 } : Room) [] #[(.int f), (.int t), (.int n), .null] [] h (fun v h' => v = some (.int f) ∧ h' = h) := by
  refine Met.of_body (a0 := a0) (L0 := #[.val (.int f), .val (.int t), .val (.int n), .val .null]) (plainFor_of_name (by first | (simp [plainName, overriddenIn]; done) | decide +kernel)) (fun m => by first | rfl | (simp [entryFrame, mkF, argsToLocals, Value.category]; done)) hw hEL (by decide) ?_
  refine iloadN (pc' := 1) d_jdk_41_method_12_0 rfl rfl ?_
  refine ifF (pc' := 4) d_jdk_41_method_12_1 (h1 : ¬ (f < (0 : Int32))) rfl ?_
  refine iloadN (pc' := 5) d_jdk_41_method_12_4 rfl rfl ?_
  refine iloadN (pc' := 6) d_jdk_41_method_12_5 rfl rfl ?_
  refine icmpF (pc' := 9) d_jdk_41_method_12_6 (h2 : ¬ (t < f)) rfl ?_
  refine iloadN (pc' := 10) d_jdk_41_method_12_9 rfl rfl ?_
  refine iloadN (pc' := 11) d_jdk_41_method_12_10 rfl rfl ?_
  refine icmpT (pc' := 22) d_jdk_41_method_12_11 (h3 : ¬ (n < t)) (by decide) rfl ?_
  refine iloadN (pc' := 23) d_jdk_41_method_12_22 rfl rfl ?_
  exact retI d_jdk_41_method_12_23 rfl (Or.inl rfl) rfl (by decide) (by decide) ⟨rfl, rfl⟩
set_option maxRecDepth 65536 in
set_option maxHeartbeats 40000000 in
theorem rm_cftR (l : Launch) (Z : State) (a0 : Array Value) (hw : ∀ d ∈ tables_1, d.before a0 Z = true) (hEL : EW Z a0 consts_1) (n0 : Nat) (f t n : Int32) (g : Addr) (h : Heap)  (h1 : ¬ f < 0) (h2 : ¬ t < f) (h3 : ¬ n < t) :
    Met l false Z consts_1 n0 (⟨"jdk/internal/util/Preconditions", "checkFromToIndex", "(IIILjava/util/function/BiFunction;)I"⟩ : MethodName) jdk_41_method_12_code 4 (some .int) ({ frames := 0, cells := 0, slots := 0, locals := 0 } : Room) [] #[(.int f), (.int t), (.int n), (.ref g)] [] h (fun v h' => v = some (.int f) ∧ h' = h) := by
  refine Met.of_body (a0 := a0) (L0 := #[.val (.int f), .val (.int t), .val (.int n), .val (.ref g)]) (plainFor_of_name (by first | (simp [plainName, overriddenIn]; done) | decide +kernel)) (fun m => by first | rfl | (simp [entryFrame, mkF, argsToLocals, Value.category]; done)) hw hEL (by decide) ?_
  refine iloadN (pc' := 1) d_jdk_41_method_12_0 rfl rfl ?_
  refine ifF (pc' := 4) d_jdk_41_method_12_1 (h1 : ¬ (f < (0 : Int32))) rfl ?_
  refine iloadN (pc' := 5) d_jdk_41_method_12_4 rfl rfl ?_
  refine iloadN (pc' := 6) d_jdk_41_method_12_5 rfl rfl ?_
  refine icmpF (pc' := 9) d_jdk_41_method_12_6 (h2 : ¬ (t < f)) rfl ?_
  refine iloadN (pc' := 10) d_jdk_41_method_12_9 rfl rfl ?_
  refine iloadN (pc' := 11) d_jdk_41_method_12_10 rfl rfl ?_
  refine icmpT (pc' := 22) d_jdk_41_method_12_11 (h3 : ¬ (n < t)) (by decide) rfl ?_
  refine iloadN (pc' := 23) d_jdk_41_method_12_22 rfl rfl ?_
  exact retI d_jdk_41_method_12_23 rfl (Or.inl rfl) rfl (by decide) (by decide) ⟨rfl, rfl⟩
set_option maxRecDepth 65536 in
set_option maxHeartbeats 40000000 in
theorem rm_cbe (l : Launch) (Z : State) (a0 : Array Value) (hw : ∀ d ∈ tables_1, d.before a0 Z = true) (hEL : EW Z a0 consts_1) (n0 : Nat) (f t n : Int32) (h : Heap)  (hB : Sets Z) (h1 : ¬ f < 0) (h2 : ¬ t < f) (h3 : ¬ n < t) :
    Met l false Z consts_1 n0 (⟨"java/lang/String", "checkBoundsBeginEnd", "(III)V"⟩ : MethodName) jdk_42_method_158_code 3 none ({ frames := 1, cells := 0, slots := 0, locals := 20 } : Room) [] #[(.int f), (.int t), (.int n)] [] h (fun v h' => v = none ∧ h' = h) := by
  refine Met.of_body (a0 := a0) (L0 := #[.val (.int f), .val (.int t), .val (.int n)]) (plainFor_of_name (by first | (simp [plainName, overriddenIn]; done) | decide +kernel)) (fun m => by first | rfl | (simp [entryFrame, mkF, argsToLocals, Value.category]; done)) hw hEL (by decide) ?_
  obtain ⟨zc, fm, Cs, hz, Sf, hfm⟩ := hB
  rcases own_ref hfm with rfl | ⟨g, rfl⟩
  · skip
    refine iloadN (pc' := 1) d_jdk_42_method_158_0 rfl rfl ?_
    refine iloadN (pc' := 2) d_jdk_42_method_158_1 rfl rfl ?_
    refine iloadN (pc' := 3) d_jdk_42_method_158_2 rfl rfl ?_
    refine old fun O1 _ => ?_
    refine getstatic (i := 87) (v := .null) (pc' := 6) d_jdk_42_method_158_3 rfl (Sf.ext O1.2) rfl ?_
    refine call (i := 91) (i2 := 88) (Wd := 0) (pc' := 9) (kStatic (i := 89) (i2 := 90) (i3 := 88) (i4 := 91) (argsL := [(.int f), (.int t), (.int n), .null]) (S' := []) (Wd := 0) d_jdk_42_method_158_6 rfl rfl rfl rfl (by decide) rfl pd_0 rfl rfl (Nat.le_of_ble_eq_true rfl)) (rm_cftN l Z a0 hw hEL n0 f t n _ h1 h2 h3) rfl rfl (by simp) (by decide) (by decide) (by decide) (by decide) rfl fun v_ h2 P3 sz4 => ?_
    obtain ⟨rfl, e5⟩ := P3
    rw [e5]
    refine at' (ce' := 0) (sl' := 0) (pc' := 9) (L' := #[.val (.int f), .val (.int t), .val (.int n)]) (S' := [(.int f)]) rfl rfl rfl rfl rfl ?_
    refine Ow.pop (pc' := 10) d_jdk_42_method_158_9 rfl rfl ?_
    exact retV d_jdk_42_method_158_10 rfl (by decide) (by decide) ⟨rfl, rfl⟩
  · skip
    refine iloadN (pc' := 1) d_jdk_42_method_158_0 rfl rfl ?_
    refine iloadN (pc' := 2) d_jdk_42_method_158_1 rfl rfl ?_
    refine iloadN (pc' := 3) d_jdk_42_method_158_2 rfl rfl ?_
    refine old fun O6 _ => ?_
    refine getstatic (i := 87) (v := (.ref g)) (pc' := 6) d_jdk_42_method_158_3 rfl (Sf.ext O6.2) rfl ?_
    refine call (i := 91) (i2 := 88) (Wd := 0) (pc' := 9) (kStatic (i := 89) (i2 := 90) (i3 := 88) (i4 := 91) (argsL := [(.int f), (.int t), (.int n), (.ref g)]) (S' := []) (Wd := 0) d_jdk_42_method_158_6 rfl rfl rfl rfl (by decide) rfl pd_0 rfl rfl (Nat.le_of_ble_eq_true rfl)) (rm_cftR l Z a0 hw hEL n0 f t n g _ h1 h2 h3) rfl rfl (by simp) (by decide) (by decide) (by decide) (by decide) rfl fun v_ h7 P8 sz9 => ?_
    obtain ⟨rfl, e10⟩ := P8
    rw [e10]
    refine at' (ce' := 0) (sl' := 0) (pc' := 9) (L' := #[.val (.int f), .val (.int t), .val (.int n)]) (S' := [(.int f)]) rfl rfl rfl rfl rfl ?_
    refine Ow.pop (pc' := 10) d_jdk_42_method_158_9 rfl rfl ?_
    exact retV d_jdk_42_method_158_10 rfl (by decide) (by decide) ⟨rfl, rfl⟩
set_option maxRecDepth 65536 in
set_option maxHeartbeats 40000000 in
theorem rm_isl (l : Launch) (Z : State) (a0 : Array Value) (hw : ∀ d ∈ tables_1, d.before a0 Z = true) (hEL : EW Z a0 consts_1) (n0 : Nat) (x : Addr) (h : Heap) (Fc : Fld Z h x "java/lang/String" "coder" "B" (.int (0 : Int32))) (hB : Sets Z) :
    Met l false Z consts_1 n0 (⟨"java/lang/String", "isLatin1", "()Z"⟩ : MethodName) jdk_42_method_154_code 1 (some .boolean) ({ frames := 0, cells := 0, slots := 0, locals := 0 } : Room) [] #[(.ref x)] [] h (fun v h' => v = some (.int 1) ∧ h' = h) := by
  refine Met.of_body (a0 := a0) (L0 := #[.val (.ref x)]) (plainFor_of_name (by first | (simp [plainName, overriddenIn]; done) | decide +kernel)) (fun m => by first | rfl | (simp [entryFrame, mkF, argsToLocals, Value.category]; done)) hw hEL (by decide) ?_
  obtain ⟨zc, fm, Cs, hz, -, -⟩ := hB
  refine old fun O11 _ => ?_
  refine getstatic (i := 14) (v := (.int zc)) (pc' := 3) d_jdk_42_method_154_0 rfl (Cs.ext O11.2) rfl ?_
  refine ifF (pc' := 6) d_jdk_42_method_154_3 (hz : ¬ (zc = (0 : Int32))) rfl ?_
  refine aloadN (pc' := 7) d_jdk_42_method_154_6 rfl rfl rfl ?_
  refine getfield (i := 26) (pc' := 10) d_jdk_42_method_154_7 rfl Fc rfl ?_
  refine ifF (pc' := 13) d_jdk_42_method_154_10 (rfl : (0 : Int32) = (0 : Int32)) rfl ?_
  refine iconst (pc' := 14) (v := (1 : Int32)) d_jdk_42_method_154_13 rfl rfl ?_
  refine goto (pc' := 18) d_jdk_42_method_154_14 (by decide) rfl ?_
  exact retI d_jdk_42_method_154_18 rfl (Or.inr (Or.inl rfl)) rfl (by decide) (by decide) ⟨rfl, rfl⟩
set_option maxRecDepth 65536 in
set_option maxHeartbeats 40000000 in
theorem rm_minI (l : Launch) (Z : State) (a0 : Array Value) (hw : ∀ d ∈ tables_1, d.before a0 Z = true) (hEL : EW Z a0 consts_1) (n0 : Nat) (a b : Int32) (h : Heap)  (hab : ¬ a < b) :
    Met l false Z consts_1 n0 (⟨"java/lang/Math", "min", "(II)I"⟩ : MethodName) jdk_29_method_69_code 2 (some .int) ({ frames := 0, cells := 0, slots := 0, locals := 0 } : Room) [] #[(.int a), (.int b)] [] h (fun v h' => v = some (.int b) ∧ h' = h) := by
  refine Met.of_body (a0 := a0) (L0 := #[.val (.int a), .val (.int b)]) (Jvm.Free.JP.mathPlain rfl (by decide +kernel)) (fun m => by first | rfl | (simp [entryFrame, mkF, argsToLocals, Value.category]; done)) hw hEL (by decide) ?_
  refine iloadN (pc' := 1) d_jdk_29_method_69_0 rfl rfl ?_
  refine iloadN (pc' := 2) d_jdk_29_method_69_1 rfl rfl ?_
  refine icmp (pc' := 9) (pcF := 5) d_jdk_29_method_69_2 (by decide) rfl rfl (fun (q0 : b < a) => ?_) (fun (q0 : ¬ (b < a)) => ?_)
  · skip
    refine iloadN (pc' := 10) d_jdk_29_method_69_9 rfl rfl ?_
    exact retI d_jdk_29_method_69_10 rfl (Or.inl rfl) rfl (by decide) (by decide) ⟨rfl, rfl⟩
  · skip
    refine iloadN (pc' := 6) d_jdk_29_method_69_5 rfl rfl ?_
    refine goto (pc' := 10) d_jdk_29_method_69_6 (by decide) rfl ?_
    exact retI d_jdk_29_method_69_10 rfl (Or.inl rfl) rfl (by decide) (by decide) ⟨by rw [own_eq hab q0], rfl⟩
set_option maxRecDepth 65536 in
set_option maxHeartbeats 40000000 in
theorem rm_ckl (l : Launch) (Z : State) (a0 : Array Value) (hw : ∀ d ∈ tables_1, d.before a0 Z = true) (hEL : EW Z a0 consts_1) (n0 : Nat) (f t : Int32) (h : Heap)  (h1 : ¬ t < f) :
    Met l false Z consts_1 n0 (⟨"java/util/Arrays", "checkLength", "(II)V"⟩ : MethodName) jdk_65_method_131_code 2 none ({ frames := 0, cells := 0, slots := 0, locals := 0 } : Room) [] #[(.int f), (.int t)] [] h (fun v h' => v = none ∧ h' = h) := by
  refine Met.of_body (a0 := a0) (L0 := #[.val (.int f), .val (.int t)]) (plainFor_of_name (by first | (simp [plainName, overriddenIn]; done) | decide +kernel)) (fun m => by first | rfl | (simp [entryFrame, mkF, argsToLocals, Value.category]; done)) hw hEL (by decide) ?_
  refine iloadN (pc' := 1) d_jdk_65_method_131_0 rfl rfl ?_
  refine iloadN (pc' := 2) d_jdk_65_method_131_1 rfl rfl ?_
  refine icmpT (pc' := 37) d_jdk_65_method_131_2 (h1 : ¬ (t < f)) (by decide) rfl ?_
  exact retV d_jdk_65_method_131_37 rfl (by decide) (by decide) ⟨rfl, rfl⟩
set_option maxRecDepth 65536 in
set_option maxHeartbeats 40000000 in
theorem rm_cob (l : Launch) (Z : State) (a0 : Array Value) (hw : ∀ d ∈ tables_1, d.before a0 Z = true) (hEL : EW Z a0 consts_1) (n0 : Nat) (b : Addr) (kb : ClassId) (vs : List Value) (dv : Value) (f k : Nat) (h : Heap) (Ab : Arv Z h b kb .byte (Int32.ofNat vs.length) vs dv) (hn : vs.length < 8) (hfk : f + k ≤ vs.length) :
    Met l false Z consts_1 n0 (⟨"java/util/Arrays", "copyOfRangeByte", "([BII)[B"⟩ : MethodName) jdk_65_method_133_code 5 (some (.array .byte)) ({ frames := 1, cells := 1, slots := 7, locals := 50 } : Room) [] #[(.ref b), (.int (Int32.ofNat f)), (.int (Int32.ofNat (f + k)))] [] h (fun v h' => ∃ r kc, v = some (.ref r) ∧ Ext h h' ∧ Arv Z h' r kc .byte (Int32.ofNat k) ((vs.drop f).take k) (.int (0 : Int32))) := by
  refine Met.of_body (a0 := a0) (L0 := #[.val (.ref b), .val (.int (Int32.ofNat f)), .val (.int (Int32.ofNat (f + k))), .unset, .unset]) (plainFor_of_name (by first | (simp [plainName, overriddenIn]; done) | decide +kernel)) (fun m => by first | rfl | (simp [entryFrame, mkF, argsToLocals, Value.category]; done)) hw hEL (by decide) ?_
  have K : Keep h h [] := Keep.refl _ _
  refine iloadN (pc' := 1) d_jdk_65_method_133_0 rfl rfl ?_
  refine iloadN (pc' := 2) d_jdk_65_method_133_1 rfl rfl ?_
  refine call (i := 111) (i2 := 104) (Wd := 0) (pc' := 5) (kStatic (i := 109) (i2 := 110) (i3 := 104) (i4 := 111) (argsL := [(.int (Int32.ofNat f)), (.int (Int32.ofNat (f + k)))]) (S' := []) (Wd := 0) d_jdk_65_method_133_2 rfl rfl rfl rfl (by decide) rfl pd_1 rfl rfl (Nat.le_of_ble_eq_true rfl)) (rm_ckl l Z a0 hw hEL n0 (Int32.ofNat f) (Int32.ofNat (f + k)) _ (fun q => absurd ((own_lt _ (by omega) _ (by omega)).mp q) (by omega))) rfl rfl (by simp) (by decide) (by decide) (by decide) (by decide) rfl fun v_ h12 P13 sz14 => ?_
  obtain ⟨rfl, e15⟩ := P13
  rw [e15]
  refine at' (ce' := 0) (sl' := 0) (pc' := 5) (L' := #[.val (.ref b), .val (.int (Int32.ofNat f)), .val (.int (Int32.ofNat (f + k))), .unset, .unset]) (S' := []) rfl rfl rfl rfl rfl ?_
  refine iloadN (pc' := 6) d_jdk_65_method_133_5 rfl rfl ?_
  refine iloadN (pc' := 7) d_jdk_65_method_133_6 rfl rfl ?_
  refine isub (pc' := 8) d_jdk_65_method_133_7 rfl ?_
  rw [own_sb _ (by omega) _ (by omega) (by omega), Nat.add_sub_cancel_left]
  refine istoreN (pc' := 9) (L' := #[.val (.ref b), .val (.int (Int32.ofNat f)), .val (.int (Int32.ofNat (f + k))), .val (.int (Int32.ofNat k)), .unset]) d_jdk_65_method_133_8 rfl rfl ?_
  refine iloadN (pc' := 10) d_jdk_65_method_133_9 rfl rfl ?_
  refine newarray (i := 19) (cap := 7) (ty := .byte) (pc' := 12) d_jdk_65_method_133_10 rfl rfl (own_nn _ (by omega)) (by rw [own_cl _ (by omega)]; omega) (by decide) (by decide) (by decide) rfl fun hq q kq gq Eq Aq => ?_
  have sz_q : h.size ≤ q := by rw [gq]; exact K.1
  have ne_b_q : b ≠ q := Nat.ne_of_lt (by rw [gq]; exact Ab.lt)
  replace K := K.ext Eq
  replace Ab := Ab.ext Eq
  have Aq' : Arv Z hq q kq .byte (Int32.ofNat k) (List.replicate k (.int (0 : Int32))) (.int (0 : Int32)) := Aq.pad (pad_rep [] _ k)
  refine astore (pc' := 14) (L' := #[.val (.ref b), .val (.int (Int32.ofNat f)), .val (.int (Int32.ofNat (f + k))), .val (.int (Int32.ofNat k)), .val (.ref q)]) d_jdk_65_method_133_12 rfl rfl rfl ?_
  refine aloadN (pc' := 15) d_jdk_65_method_133_14 rfl rfl rfl ?_
  refine iloadN (pc' := 16) d_jdk_65_method_133_15 rfl rfl ?_
  refine aload (pc' := 18) d_jdk_65_method_133_16 rfl rfl rfl ?_
  refine iconst (pc' := 19) (v := (0 : Int32)) d_jdk_65_method_133_18 rfl rfl ?_
  refine aloadN (pc' := 20) d_jdk_65_method_133_19 rfl rfl rfl ?_
  refine arraylength (pc' := 21) d_jdk_65_method_133_20 Ab rfl ?_
  refine iloadN (pc' := 22) d_jdk_65_method_133_21 rfl rfl ?_
  refine isub (pc' := 23) d_jdk_65_method_133_22 rfl ?_
  rw [own_sb _ hn _ (by omega) (by omega)]
  refine iloadN (pc' := 24) d_jdk_65_method_133_23 rfl rfl ?_
  refine call (i := 115) (i2 := 114) (Wd := 4) (pc' := 27) (kStatic (i := 112) (i2 := 113) (i3 := 114) (i4 := 115) (argsL := [(.int (Int32.ofNat (vs.length - f))), (.int (Int32.ofNat k))]) (S' := [(.int (0 : Int32)), (.ref q), (.int (Int32.ofNat f)), (.ref b)]) (Wd := 4) d_jdk_65_method_133_24 rfl rfl rfl rfl (by decide) rfl pd_2 rfl rfl (Nat.le_of_ble_eq_true rfl)) (rm_minI l Z a0 hw hEL n0 (Int32.ofNat (vs.length - f)) (Int32.ofNat k) _ (fun q => absurd ((own_lt _ (by omega) _ (by omega)).mp q) (by omega))) rfl rfl (by simp) (by decide) (by decide) (by decide) (by decide) rfl fun v_ h16 P17 sz18 => ?_
  obtain ⟨rfl, e19⟩ := P17
  rw [e19]
  refine at' (ce' := 1) (sl' := 7) (pc' := 27) (L' := #[.val (.ref b), .val (.int (Int32.ofNat f)), .val (.int (Int32.ofNat (f + k))), .val (.int (Int32.ofNat k)), .val (.ref q)]) (S' := [(.int (Int32.ofNat k)), (.int (0 : Int32)), (.ref q), (.int (Int32.ofNat f)), (.ref b)]) rfl rfl rfl rfl rfl ?_
  refine copyArr (i1 := 116) (i2 := 119) (i3 := 117) (i4 := 118) (Wd := 0) (pc' := 30) d_jdk_65_method_133_27 rfl rfl rfl rfl Ab Aq' rfl (own_nn _ (by omega)) (by decide) (own_nn _ (by omega)) (by rw [own_cl _ (by omega), own_cl _ (by omega), own_cl _ (by omega)]; exact hfk) (by rw [own_cl _ (by omega)]; show 0 + k ≤ k; omega) (by rw [own_cl _ (by omega), List.length_replicate]; show 0 + k ≤ k; omega) (by simp) rfl (by decide) (by decide) (by decide) rfl fun hz Kz Az => ?_
  replace K := K.trans Kz (allS (Or.inr sz_q) all0)
  replace Ab := Ab.keep Kz (ninS ne_b_q nin0)
  refine aload (pc' := 32) d_jdk_65_method_133_30 rfl rfl rfl ?_
  rw [own_cl k (by omega), own_cl f (by omega)] at Az
  exact retA d_jdk_65_method_133_32 rfl rfl rfl (by decide) (by decide) ⟨q, kq, rfl, keepExt K, by rw [← copied hfk]; exact Az⟩
set_option maxRecDepth 65536 in
set_option maxHeartbeats 40000000 in
theorem rm_cor (l : Launch) (Z : State) (a0 : Array Value) (hw : ∀ d ∈ tables_1, d.before a0 Z = true) (hEL : EW Z a0 consts_1) (n0 : Nat) (b : Addr) (kb : ClassId) (vs : List Value) (dv : Value) (f k : Nat) (h : Heap) (Ab : Arv Z h b kb .byte (Int32.ofNat vs.length) vs dv) (hn : vs.length < 8) (hfk : f + k ≤ vs.length) (hne : ¬ (f = 0 ∧ k = vs.length)) :
    Met l false Z consts_1 n0 (⟨"java/util/Arrays", "copyOfRange", "([BII)[B"⟩ : MethodName) jdk_65_method_132_code 3 (some (.array .byte)) ({ frames := 2, cells := 1, slots := 7, locals := 66 } : Room) [] #[(.ref b), (.int (Int32.ofNat f)), (.int (Int32.ofNat (f + k)))] [] h (fun v h' => ∃ r kc, v = some (.ref r) ∧ Ext h h' ∧ Arv Z h' r kc .byte (Int32.ofNat k) ((vs.drop f).take k) (.int (0 : Int32))) := by
  refine Met.of_body (a0 := a0) (L0 := #[.val (.ref b), .val (.int (Int32.ofNat f)), .val (.int (Int32.ofNat (f + k)))]) (plainFor_of_name (by first | (simp [plainName, overriddenIn]; done) | decide +kernel)) (fun m => by first | rfl | (simp [entryFrame, mkF, argsToLocals, Value.category]; done)) hw hEL (by decide) ?_
  refine iloadN (pc' := 1) d_jdk_65_method_132_0 rfl rfl ?_
  refine ifc (pc' := 10) (pcF := 4) d_jdk_65_method_132_1 (by decide) rfl rfl (fun (q0 : ¬ ((Int32.ofNat f) = (0 : Int32))) => ?_) (fun (q0 : (Int32.ofNat f) = (0 : Int32)) => ?_)
  · skip
    refine aloadN (pc' := 11) d_jdk_65_method_132_10 rfl rfl rfl ?_
    refine iloadN (pc' := 12) d_jdk_65_method_132_11 rfl rfl ?_
    refine iloadN (pc' := 13) d_jdk_65_method_132_12 rfl rfl ?_
    refine call (i := 108) (i2 := 104) (Wd := 0) (pc' := 16) (kStatic (i := 106) (i2 := 107) (i3 := 104) (i4 := 108) (argsL := [(.ref b), (.int (Int32.ofNat f)), (.int (Int32.ofNat (f + k)))]) (S' := []) (Wd := 0) d_jdk_65_method_132_13 rfl rfl rfl rfl (by decide) rfl pd_3 rfl rfl (Nat.le_of_ble_eq_true rfl)) (rm_cob l Z a0 hw hEL n0 b kb vs dv f k _ Ab hn hfk) rfl rfl (by simp) (by decide) (by decide) (by decide) (by decide) rfl fun v_ h20 P21 sz22 => ?_
    obtain ⟨r, kc, rfl, X1, A1⟩ := P21
    refine at' (ce' := 1) (sl' := 7) (pc' := 16) (L' := #[.val (.ref b), .val (.int (Int32.ofNat f)), .val (.int (Int32.ofNat (f + k)))]) (S' := [(.ref r)]) rfl rfl rfl rfl rfl ?_
    exact retA d_jdk_65_method_132_16 rfl rfl rfl (by decide) (by decide) ⟨r, kc, rfl, X1, A1⟩
  · skip
    have f0 := own_k0 f (by omega) q0
    refine iloadN (pc' := 5) d_jdk_65_method_132_4 rfl rfl ?_
    refine aloadN (pc' := 6) d_jdk_65_method_132_5 rfl rfl rfl ?_
    refine arraylength (pc' := 7) d_jdk_65_method_132_6 Ab rfl ?_
    refine icmpF (pc' := 10) d_jdk_65_method_132_7 (fun q => hne ⟨f0, by have := own_inj _ (by omega) _ (by omega) q; omega⟩ : ¬ ((Int32.ofNat (f + k)) = (Int32.ofNat vs.length))) rfl ?_
    refine aloadN (pc' := 11) d_jdk_65_method_132_10 rfl rfl rfl ?_
    refine iloadN (pc' := 12) d_jdk_65_method_132_11 rfl rfl ?_
    refine iloadN (pc' := 13) d_jdk_65_method_132_12 rfl rfl ?_
    refine call (i := 108) (i2 := 104) (Wd := 0) (pc' := 16) (kStatic (i := 106) (i2 := 107) (i3 := 104) (i4 := 108) (argsL := [(.ref b), (.int (Int32.ofNat f)), (.int (Int32.ofNat (f + k)))]) (S' := []) (Wd := 0) d_jdk_65_method_132_13 rfl rfl rfl rfl (by decide) rfl pd_3 rfl rfl (Nat.le_of_ble_eq_true rfl)) (rm_cob l Z a0 hw hEL n0 b kb vs dv f k _ Ab hn hfk) rfl rfl (by simp) (by decide) (by decide) (by decide) (by decide) rfl fun v_ h23 P24 sz25 => ?_
    obtain ⟨r, kc, rfl, X1, A1⟩ := P24
    refine at' (ce' := 1) (sl' := 7) (pc' := 16) (L' := #[.val (.ref b), .val (.int (Int32.ofNat f)), .val (.int (Int32.ofNat (f + k)))]) (S' := [(.ref r)]) rfl rfl rfl rfl rfl ?_
    exact retA d_jdk_65_method_132_16 rfl rfl rfl (by decide) (by decide) ⟨r, kc, rfl, X1, A1⟩
set_option maxRecDepth 65536 in
set_option maxHeartbeats 40000000 in
theorem rm_sBB (l : Launch) (Z : State) (a0 : Array Value) (hw : ∀ d ∈ tables_1, d.before a0 Z = true) (hEL : EW Z a0 consts_1) (n0 : Nat) (x b : Addr) (h : Heap) (Ex : Exa Z h x "java/lang/String") (Fv : Fld Z h x "java/lang/String" "value" "[B" .null) (Fc : Fld Z h x "java/lang/String" "coder" "B" (.int (0 : Int32)))  :
    Met l false Z consts_1 n0 (⟨"java/lang/String", "<init>", "([BB)V"⟩ : MethodName) jdk_42_method_151_code 3 none ({ frames := 1, cells := 0, slots := 0, locals := 12 } : Room) [] #[(.ref x), (.ref b), (.int (0 : Int32))] [x] h (fun v h' => v = none ∧ Keep h h' [x] ∧ Exa Z h' x "java/lang/String" ∧ Fld Z h' x "java/lang/String" "value" "[B" (.ref b) ∧ Fld Z h' x "java/lang/String" "coder" "B" (.int (0 : Int32))) := by
  refine Met.of_body (a0 := a0) (L0 := #[.val (.ref x), .val (.ref b), .val (.int (0 : Int32))]) (plainFor_of_name (by first | (simp [plainName, overriddenIn]; done) | decide +kernel)) (fun m => by first | rfl | (simp [entryFrame, mkF, argsToLocals, Value.category]; done)) hw hEL (by decide) ?_
  have K : Keep h h [x] := Keep.refl _ _
  refine aloadN (pc' := 1) d_jdk_42_method_151_0 rfl rfl rfl ?_
  refine initObj (i := 11) (i2 := 12) (i3 := 13) (Wd := 0) (pc' := 4) d_jdk_42_method_151_1 rfl rfl rfl rfl (by decide) (Nat.le_of_ble_eq_true rfl) (by decide) rfl ?_
  refine aloadN (pc' := 5) d_jdk_42_method_151_4 rfl rfl rfl ?_
  refine aloadN (pc' := 6) d_jdk_42_method_151_5 rfl rfl rfl ?_
  refine putfield (i := 28) (i2 := 29) (i3 := 2) (pc' := 9) (v' := (.ref b)) (ty := (.array .byte)) d_jdk_42_method_151_6 rfl (Or.inr ⟨rfl, rfl, rfl⟩) rfl Fv Ex (by decide) rfl rfl (by simp) rfl fun h26 W27 => ?_
  replace K := K.wr W27 (Or.inl (by simp))
  replace Ex := Ex.wr W27
  replace Fv := Fv.same W27
  replace Fc := Fc.other W27 (Or.inr (slot_ne (Or.inr (hw _ (List.mem_of_getElem? (i := 27) rfl))) (Or.inr (hw _ (List.mem_of_getElem? (i := 29) rfl))) (by decide) (t := .byte) (t' := (.array .byte)) (by decide) (by decide)))
  refine aloadN (pc' := 10) d_jdk_42_method_151_9 rfl rfl rfl ?_
  refine iloadN (pc' := 11) d_jdk_42_method_151_10 rfl rfl ?_
  refine putfield (i := 26) (i2 := 27) (i3 := 2) (pc' := 14) (v' := (.int (0 : Int32))) (ty := .byte) d_jdk_42_method_151_11 rfl (Or.inr ⟨rfl, rfl, rfl⟩) rfl Fc Ex (by decide) (by decide) (by decide) (by simp) rfl fun h28 W29 => ?_
  replace K := K.wr W29 (Or.inl (by simp))
  replace Ex := Ex.wr W29
  replace Fv := Fv.other W29 (Or.inr (slot_ne (Or.inr (hw _ (List.mem_of_getElem? (i := 29) rfl))) (Or.inr (hw _ (List.mem_of_getElem? (i := 27) rfl))) (by decide) (t := (.array .byte)) (t' := .byte) (by decide) (by decide)))
  replace Fc := Fc.same W29
  exact retV d_jdk_42_method_151_14 rfl (by decide) (by decide) ⟨rfl, K, Ex, Fv, Fc⟩
set_option maxRecDepth 65536 in
set_option maxHeartbeats 40000000 in
theorem rm_ns (l : Launch) (Z : State) (a0 : Array Value) (hw : ∀ d ∈ tables_1, d.before a0 Z = true) (hEL : EW Z a0 consts_1) (n0 : Nat) (b : Addr) (kb : ClassId) (cs : List Int32) (f k : Nat) (h : Heap) (Ab : Arv Z h b kb .byte (Int32.ofNat cs.length) (lat cs) (.int 0)) (hn : cs.length < 8) (hfk : f + k ≤ cs.length) (hne : ¬ (f = 0 ∧ k = cs.length)) (hp : ∀ c ∈ cs, ¬ c < 0 ∧ ¬ (255 : Int32) < c) :
    Met l false Z consts_1 n0 (⟨"java/lang/StringLatin1", "newString", "([BII)Ljava/lang/String;"⟩ : MethodName) jdk_43_method_47_code 3 (some (.object "java/lang/String")) ({ frames := 3, cells := 2, slots := 11, locals := 84 } : Room) [] #[(.ref b), (.int (Int32.ofNat f)), (.int (Int32.ofNat k))] [] h (fun v h' => ∃ r, v = some (.ref r) ∧ Ext h h' ∧ Str Z h' r ((cs.drop f).take k)) := by
  refine Met.of_body (a0 := a0) (L0 := #[.val (.ref b), .val (.int (Int32.ofNat f)), .val (.int (Int32.ofNat k))]) (plainFor_of_name (by first | (simp [plainName, overriddenIn]; done) | decide +kernel)) (fun m => by first | rfl | (simp [entryFrame, mkF, argsToLocals, Value.category]; done)) hw hEL (by decide) ?_
  have K : Keep h h [] := Keep.refl _ _
  refine iloadN (pc' := 1) d_jdk_43_method_47_0 rfl rfl ?_
  refine ifc (pc' := 7) (pcF := 4) d_jdk_43_method_47_1 (by decide) rfl rfl (fun (q0 : ¬ ((Int32.ofNat k) = (0 : Int32))) => ?_) (fun (q0 : (Int32.ofNat k) = (0 : Int32)) => ?_)
  · skip
    refine new (i := 101) (i2 := 2) (i3 := 3) (pc' := 10) d_jdk_43_method_47_7 rfl rfl rfl (by decide) (by decide) rfl fun h30 a31 g32 E33 A34 D35 => ?_
    have sz_a31 : h.size ≤ a31 := by rw [g32]; exact K.1
    have ne_b_a31 : b ≠ a31 := Nat.ne_of_lt (by rw [g32]; exact Ab.lt)
    replace K := K.ext E33
    replace Ab := Ab.ext E33
    have F_coder_a31 : Fld Z h30 a31 "java/lang/String" "coder" "B" (.int (0 : Int32)) := D35 (Or.inr (hw _ (List.mem_of_getElem? (i := 27) rfl))) (ty := .byte) (by decide)
    have F_value_a31 : Fld Z h30 a31 "java/lang/String" "value" "[B" .null := D35 (Or.inr (hw _ (List.mem_of_getElem? (i := 29) rfl))) (ty := (.array .byte)) (by decide)
    refine dup (pc' := 11) d_jdk_43_method_47_10 rfl rfl ?_
    refine aloadN (pc' := 12) d_jdk_43_method_47_11 rfl rfl rfl ?_
    refine iloadN (pc' := 13) d_jdk_43_method_47_12 rfl rfl ?_
    refine iloadN (pc' := 14) d_jdk_43_method_47_13 rfl rfl ?_
    refine iloadN (pc' := 15) d_jdk_43_method_47_14 rfl rfl ?_
    refine iadd (pc' := 16) d_jdk_43_method_47_15 rfl ?_
    rw [own_ofn]
    have Ab' : Arv Z h30 b kb .byte (Int32.ofNat (lat cs).length) (lat cs) (.int 0) := by rw [lat_len]; exact Ab
    refine call (i := 105) (i2 := 104) (Wd := 2) (pc' := 19) (kStatic (i := 102) (i2 := 103) (i3 := 104) (i4 := 105) (argsL := [(.ref b), (.int (Int32.ofNat f)), (.int (Int32.ofNat (f + k)))]) (S' := [(.ref a31), (.ref a31)]) (Wd := 2) d_jdk_43_method_47_16 rfl rfl rfl rfl (by decide) rfl pd_3 rfl rfl (Nat.le_of_ble_eq_true rfl)) (rm_cor l Z a0 hw hEL n0 b kb (lat cs) (.int 0) f k _ Ab' (by rw [lat_len]; exact hn) (by rw [lat_len]; exact hfk) (by rw [lat_len]; exact hne)) rfl rfl (by simp) (by decide) (by decide) (by decide) (by decide) rfl fun v_ h36 P37 sz38 => ?_
    obtain ⟨r, kc, rfl, X1, A1⟩ := P37
    replace K := K.ext X1
    replace Ab := Ab.ext X1
    replace A34 := A34.ext X1
    replace F_coder_a31 := F_coder_a31.ext X1
    replace F_value_a31 := F_value_a31.ext X1
    have ne_r : a31 ≠ r := A34.neArv A1 (hw _ (List.mem_of_getElem? (i := 2) rfl))
    refine at' (ce' := 2) (sl' := 11) (pc' := 19) (L' := #[.val (.ref b), .val (.int (Int32.ofNat f)), .val (.int (Int32.ofNat k))]) (S' := [(.ref r), (.ref a31), (.ref a31)]) rfl rfl rfl rfl rfl ?_
    refine iconst (pc' := 20) (v := (0 : Int32)) d_jdk_43_method_47_19 rfl rfl ?_
    refine call (i := 122) (i2 := 3) (Wd := 1) (pc' := 23) (kInit (i := 120) (i2 := 121) (i4 := 122) (a := a31) (argsL := [(.ref r), (.int (0 : Int32))]) (S' := [(.ref a31)]) (Wd := 1) d_jdk_43_method_47_20 rfl rfl rfl rfl (by decide) rfl pd_4 rfl rfl (Nat.le_of_ble_eq_true rfl)) (rm_sBB l Z a0 hw hEL n0 a31 r _ A34 F_value_a31 F_coder_a31) rfl rfl (by simp) (by decide) (by decide) (by decide) (by decide) rfl fun v_ h39 P40 sz41 => ?_
    obtain ⟨rfl, K2, Ex2, Fv2, Fc2⟩ := P40
    replace K := K.trans K2 (allS (Or.inr sz_a31) all0)
    replace Ab := Ab.keep K2 (ninS ne_b_a31 nin0)
    replace A34 := A34.keep K2
    replace A1 := A1.keep K2 (ninS (Ne.symm ne_r) nin0)
    refine at' (ce' := 2) (sl' := 11) (pc' := 23) (L' := #[.val (.ref b), .val (.int (Int32.ofNat f)), .val (.int (Int32.ofNat k))]) (S' := [(.ref a31)]) rfl rfl rfl rfl rfl ?_
    exact retA d_jdk_43_method_47_23 rfl rfl rfl (by decide) (by decide) ⟨a31, rfl, keepExt K, Ex2, Fc2, ⟨r, kc, Fv2, by rw [sub_len hfk, ← lat_sub]; exact A1⟩, fun c q => hp c (List.mem_of_mem_drop (List.mem_of_mem_take q)), by rw [sub_len hfk]; omega⟩
  · skip
    have k0 := own_k0 k (by omega) q0
    refine ldcStr (i := 140) (n := 0) (vs := []) (z := (0 : Int32)) (pc' := 6) d_jdk_43_method_47_4 rfl (by decide +kernel) (by decide) rfl ⟨by simp, by simp⟩ (by decide) rfl (by simp) (by decide) (by decide) (by decide) rfl fun h1 sa1 sb1 sk1 SE1 SA1 SC1 SV1 SR1 SN1 => ?_
    replace K := K.ext SE1
    replace Ab := Ab.ext SE1
    refine at' (ce' := 2) (sl' := 4) (pc' := 6) (L' := #[.val (.ref b), .val (.int (Int32.ofNat f)), .val (.int (Int32.ofNat k))]) (S' := [(.ref sa1)]) rfl rfl rfl rfl rfl ?_
    exact retA d_jdk_43_method_47_6 rfl rfl rfl (by decide) (by decide) ⟨sa1, rfl, keepExt K, by rw [k0, List.take_zero]; exact ⟨SA1, SC1, ⟨sb1, _, SV1, SR1⟩, by simp, by decide⟩⟩
set_option maxRecDepth 65536 in
set_option maxHeartbeats 40000000 in
theorem rm_su (l : Launch) (Z : State) (a0 : Array Value) (hw : ∀ d ∈ tables_1, d.before a0 Z = true) (hEL : EW Z a0 consts_1) (n0 : Nat) (x : Addr) (cs : List Int32) (f k : Nat) (h : Heap) (Sx : Str Z h x cs) (hB : Sets Z) (hn : cs.length < 8) (hfk : f + k ≤ cs.length) :
    Met l false Z consts_1 n0 (⟨"java/lang/String", "substring", "(II)Ljava/lang/String;"⟩ : MethodName) jdk_42_method_92_code 5 (some (.object "java/lang/String")) ({ frames := 4, cells := 2, slots := 11, locals := 100 } : Room) [] #[(.ref x), (.int (Int32.ofNat f)), (.int (Int32.ofNat (f + k)))] [] h (fun v h' => ∃ r, v = some (.ref r) ∧ Ext h h' ∧ Str Z h' r ((cs.drop f).take k)) := by
  refine Met.of_body (a0 := a0) (L0 := #[.val (.ref x), .val (.int (Int32.ofNat f)), .val (.int (Int32.ofNat (f + k))), .unset, .unset]) (plainFor_of_name (by first | (simp [plainName, overriddenIn]; done) | decide +kernel)) (fun m => by first | rfl | (simp [entryFrame, mkF, argsToLocals, Value.category]; done)) hw hEL (by decide) ?_
  obtain ⟨Ex, Fc, ⟨b, kb, Fv, Ab⟩, hp, l2⟩ := id Sx
  refine aloadN (pc' := 1) d_jdk_42_method_92_0 rfl rfl rfl ?_
  refine strLen (i := 2) (Wd := 0) (cs := cs) (pc' := 4) hB (by decide +kernel) rfl (kVirt (i := 74) (i2 := 75) (i3 := 77) (i4 := 76) (C := "java/lang/String") (a := x) (argsL := []) (S' := []) (Wd := 0) d_jdk_42_method_92_1 rfl rfl rfl rfl Sx.exa (by decide) rfl pd_5 rfl rfl (Nat.le_of_ble_eq_true rfl)) Sx (by decide) (by decide) (by decide) (by decide) rfl ?_
  refine at' (ce' := 0) (sl' := 0) (pc' := 4) (L' := #[.val (.ref x), .val (.int (Int32.ofNat f)), .val (.int (Int32.ofNat (f + k))), .unset, .unset]) (S' := [(.int (Int32.ofNat (cs).length))]) rfl rfl rfl rfl rfl ?_
  refine istoreN (pc' := 5) (L' := #[.val (.ref x), .val (.int (Int32.ofNat f)), .val (.int (Int32.ofNat (f + k))), .val (.int (Int32.ofNat (cs).length)), .unset]) d_jdk_42_method_92_4 rfl rfl ?_
  refine iloadN (pc' := 6) d_jdk_42_method_92_5 rfl rfl ?_
  refine iloadN (pc' := 7) d_jdk_42_method_92_6 rfl rfl ?_
  refine iloadN (pc' := 8) d_jdk_42_method_92_7 rfl rfl ?_
  refine call (i := 86) (i2 := 3) (Wd := 0) (pc' := 11) (kStatic (i := 84) (i2 := 85) (i3 := 3) (i4 := 86) (argsL := [(.int (Int32.ofNat f)), (.int (Int32.ofNat (f + k))), (.int (Int32.ofNat (cs).length))]) (S' := []) (Wd := 0) d_jdk_42_method_92_8 rfl rfl rfl rfl (by decide) rfl pd_6 rfl rfl (Nat.le_of_ble_eq_true rfl)) (rm_cbe l Z a0 hw hEL n0 (Int32.ofNat f) (Int32.ofNat (f + k)) (Int32.ofNat cs.length) _ hB (own_nn _ (by omega)) (fun q => absurd ((own_lt _ (by omega) _ (by omega)).mp q) (by omega)) (fun q => absurd ((own_lt _ (by omega) _ (by omega)).mp q) (by omega))) rfl rfl (by simp) (by decide) (by decide) (by decide) (by decide) rfl fun v_ h42 P43 sz44 => ?_
  obtain ⟨rfl, e45⟩ := P43
  rw [e45]
  refine at' (ce' := 0) (sl' := 0) (pc' := 11) (L' := #[.val (.ref x), .val (.int (Int32.ofNat f)), .val (.int (Int32.ofNat (f + k))), .val (.int (Int32.ofNat (cs).length)), .unset]) (S' := []) rfl rfl rfl rfl rfl ?_
  have J22 : ¬ (f = 0 ∧ k = cs.length) → Wq l false Z consts_1 a0 n0 (⟨"java/lang/String", "substring", "(II)Ljava/lang/String;"⟩ : MethodName) jdk_42_method_92_code 5 (some (.object "java/lang/String")) ({ frames := 4, cells := 2, slots := 11, locals := 100 } : Room) h (fun v h' => ∃ r, v = some (.ref r) ∧ Ext h h' ∧ Str Z h' r ((cs.drop f).take k)) [] h 0 0 22 #[.val (.ref x), .val (.int (Int32.ofNat f)), .val (.int (Int32.ofNat (f + k))), .val (.int (Int32.ofNat (cs).length)), .unset] [] := by
    intro hne
    refine iloadN (pc' := 23) d_jdk_42_method_92_22 rfl rfl ?_
    refine iloadN (pc' := 24) d_jdk_42_method_92_23 rfl rfl ?_
    refine isub (pc' := 25) d_jdk_42_method_92_24 rfl ?_
    rw [own_sb _ (by omega) _ (by omega) (by omega), Nat.add_sub_cancel_left]
    refine istore (pc' := 27) (L' := #[.val (.ref x), .val (.int (Int32.ofNat f)), .val (.int (Int32.ofNat (f + k))), .val (.int (Int32.ofNat (cs).length)), .val (.int (Int32.ofNat k))]) d_jdk_42_method_92_25 rfl rfl ?_
    refine aloadN (pc' := 28) d_jdk_42_method_92_27 rfl rfl rfl ?_
    refine call (i := 96) (i2 := 3) (Wd := 0) (pc' := 31) (kVirt (i := 92) (i2 := 93) (i3 := 95) (i4 := 94) (C := "java/lang/String") (a := x) (argsL := []) (S' := []) (Wd := 0) d_jdk_42_method_92_28 rfl rfl rfl rfl Ex (by decide) rfl pd_7 rfl rfl (Nat.le_of_ble_eq_true rfl)) (rm_isl l Z a0 hw hEL n0 x _ Fc hB) rfl rfl (by simp) (by decide) (by decide) (by decide) (by decide) rfl fun v_ h46 P47 sz48 => ?_
    obtain ⟨rfl, e49⟩ := P47
    rw [e49]
    refine at' (ce' := 0) (sl' := 0) (pc' := 31) (L' := #[.val (.ref x), .val (.int (Int32.ofNat f)), .val (.int (Int32.ofNat (f + k))), .val (.int (Int32.ofNat (cs).length)), .val (.int (Int32.ofNat k))]) (S' := [(.int (1 : Int32))]) rfl rfl rfl rfl rfl ?_
    refine ifF (pc' := 34) d_jdk_42_method_92_31 (by decide : ¬ ((1 : Int32) = (0 : Int32))) rfl ?_
    refine aloadN (pc' := 35) d_jdk_42_method_92_34 rfl rfl rfl ?_
    refine getfield (i := 28) (pc' := 38) d_jdk_42_method_92_35 rfl Fv rfl ?_
    refine iloadN (pc' := 39) d_jdk_42_method_92_38 rfl rfl ?_
    refine iload (pc' := 41) d_jdk_42_method_92_39 rfl rfl ?_
    refine call (i := 100) (i2 := 99) (Wd := 0) (pc' := 44) (kStatic (i := 97) (i2 := 98) (i3 := 99) (i4 := 100) (argsL := [(.ref b), (.int (Int32.ofNat f)), (.int (Int32.ofNat k))]) (S' := []) (Wd := 0) d_jdk_42_method_92_41 rfl rfl rfl rfl (by decide) rfl pd_8 rfl rfl (Nat.le_of_ble_eq_true rfl)) (rm_ns l Z a0 hw hEL n0 b kb cs f k _ Ab hn hfk hne hp) rfl rfl (by simp) (by decide) (by decide) (by decide) (by decide) rfl fun v_ h50 P51 sz52 => ?_
    obtain ⟨r, rfl, X1, S1⟩ := P51
    refine at' (ce' := 2) (sl' := 11) (pc' := 44) (L' := #[.val (.ref x), .val (.int (Int32.ofNat f)), .val (.int (Int32.ofNat (f + k))), .val (.int (Int32.ofNat (cs).length)), .val (.int (Int32.ofNat k))]) (S' := [(.ref r)]) rfl rfl rfl rfl rfl ?_
    refine goto (pc' := 57) d_jdk_42_method_92_44 (by decide) rfl ?_
    exact retA d_jdk_42_method_92_57 rfl rfl rfl (by decide) (by decide) ⟨r, rfl, X1, S1⟩
  refine iloadN (pc' := 12) d_jdk_42_method_92_11 rfl rfl ?_
  refine ifc (pc' := 22) (pcF := 15) d_jdk_42_method_92_12 (by decide) rfl rfl (fun (q0 : ¬ ((Int32.ofNat f) = (0 : Int32))) => ?_) (fun (q0 : (Int32.ofNat f) = (0 : Int32)) => ?_)
  · skip
    exact J22 fun q => q0 (by rw [q.1]; rfl)
  · skip
    have f0 := own_k0 f (by omega) q0
    refine iloadN (pc' := 16) d_jdk_42_method_92_15 rfl rfl ?_
    refine iloadN (pc' := 17) d_jdk_42_method_92_16 rfl rfl ?_
    refine icmp (pc' := 22) (pcF := 20) d_jdk_42_method_92_17 (by decide) rfl rfl (fun (q1 : ¬ ((Int32.ofNat (f + k)) = (Int32.ofNat (cs).length))) => ?_) (fun (q1 : (Int32.ofNat (f + k)) = (Int32.ofNat (cs).length)) => ?_)
    · skip
      exact J22 fun q => q1 (by rw [q.1, q.2, Nat.zero_add])
    · skip
      refine aloadN (pc' := 21) d_jdk_42_method_92_20 rfl rfl rfl ?_
      have k0 := own_inj _ (by omega) _ (by omega) q1
      exact retA d_jdk_42_method_92_21 rfl rfl rfl (by decide) (by decide) ⟨x, rfl, ⟨Nat.le_refl _, fun _ _ q => q⟩, by rw [f0, List.drop_zero, List.take_of_length_le (by omega)]; exact Sx⟩
set_option maxRecDepth 65536 in
set_option maxHeartbeats 40000000 in
theorem rm_abi (l : Launch) (Z : State) (a0 : Array Value) (hw : ∀ d ∈ tables_1, d.before a0 Z = true) (hEL : EW Z a0 consts_1) (n0 : Nat) (sb : Addr) (h : Heap) (Es : Exa Z h sb "java/lang/StringBuilder") (Fv : Fld Z h sb "java/lang/AbstractStringBuilder" "value" "[B" .null) (Fc : Fld Z h sb "java/lang/AbstractStringBuilder" "coder" "B" (.int (0 : Int32))) (Fn : Fld Z h sb "java/lang/AbstractStringBuilder" "count" "I" (.int (0 : Int32))) (hB : Sets Z) :
    Met l false Z consts_1 n0 (⟨"java/lang/AbstractStringBuilder", "<init>", "(I)V"⟩ : MethodName) jdk_68_method_2_code 2 none ({ frames := 1, cells := 1, slots := 4, locals := 20 } : Room) [] #[(.ref sb), (.int (4 : Int32))] [sb] h (fun v h' => ∃ b : Addr, v = none ∧ Keep h h' [sb] ∧ h.size ≤ b ∧ SBd Z h' sb b 0) := by
  refine Met.of_body (a0 := a0) (L0 := #[.val (.ref sb), .val (.int (4 : Int32))]) (plainFor_of_name (by first | (simp [plainName, overriddenIn]; done) | decide +kernel)) (fun m => by first | rfl | (simp [entryFrame, mkF, argsToLocals, Value.category]; done)) hw hEL (by decide) ?_
  have K : Keep h h [sb] := Keep.refl _ _
  obtain ⟨zc, fm, Cs, hz, -, -⟩ := hB
  refine aloadN (pc' := 1) d_jdk_68_method_2_0 rfl rfl rfl ?_
  refine initObj (i := 156) (i2 := 12) (i3 := 13) (Wd := 0) (pc' := 4) d_jdk_68_method_2_1 rfl rfl rfl rfl (by decide) (Nat.le_of_ble_eq_true rfl) (by decide) rfl ?_
  refine old fun O53 _ => ?_
  refine getstatic (i := 157) (v := (.int zc)) (pc' := 7) d_jdk_68_method_2_4 rfl (Cs.ext O53.2) rfl ?_
  refine ifF (pc' := 10) d_jdk_68_method_2_7 (hz : ¬ (zc = (0 : Int32))) rfl ?_
  refine aloadN (pc' := 11) d_jdk_68_method_2_10 rfl rfl rfl ?_
  refine iloadN (pc' := 12) d_jdk_68_method_2_11 rfl rfl ?_
  refine newarrayE (i := 19) (cap := 4) (ty := .byte) (ad := "[B") (pc' := 14) d_jdk_68_method_2_12 rfl rfl (by decide) (by decide) (by decide) (by decide) (by decide) rfl (by decide) fun hq q kq gq Eq Aq Eb => ?_
  have sz_q : h.size ≤ q := by rw [gq]; exact K.1
  have ne_sb_q : sb ≠ q := Nat.ne_of_lt (by rw [gq]; exact Es.lt)
  replace K := K.ext Eq
  replace Es := Es.ext Eq
  replace Fv := Fv.ext Eq
  replace Fc := Fc.ext Eq
  replace Fn := Fn.ext Eq
  have Aq' : Arv Z hq q kq .byte (4 : Int32) (lat [0, 0, 0, 0]) (.int (0 : Int32)) := Aq.pad (pad_rep [] _ 4)
  refine putfield (i := 158) (i2 := 159) (i3 := 144) (pc' := 17) (v' := (.ref q)) (ty := (.array .byte)) d_jdk_68_method_2_14 rfl (Or.inl rfl) rfl Fv Es (by decide) rfl rfl (by simp) rfl fun h54 W55 => ?_
  replace K := K.wr W55 (Or.inl (by simp))
  replace Es := Es.wr W55
  replace Fv := Fv.same W55
  replace Fc := Fc.other W55 (Or.inr (slot_ne (Or.inl (hw _ (List.mem_of_getElem? (i := 161) rfl))) (Or.inl (hw _ (List.mem_of_getElem? (i := 159) rfl))) (by decide) (t := .byte) (t' := (.array .byte)) (by decide) (by decide)))
  replace Fn := Fn.other W55 (Or.inr (slot_ne (Or.inl (hw _ (List.mem_of_getElem? (i := 173) rfl))) (Or.inl (hw _ (List.mem_of_getElem? (i := 159) rfl))) (by decide) (t := .int) (t' := (.array .byte)) (by decide) (by decide)))
  replace Aq' := Aq'.other W55 (Ne.symm ne_sb_q)
  replace Eb := Eb.wr W55
  refine aloadN (pc' := 18) d_jdk_68_method_2_17 rfl rfl rfl ?_
  refine iconst (pc' := 19) (v := (0 : Int32)) d_jdk_68_method_2_18 rfl rfl ?_
  refine putfield (i := 160) (i2 := 161) (i3 := 144) (pc' := 22) (v' := (.int (0 : Int32))) (ty := .byte) d_jdk_68_method_2_19 rfl (Or.inl rfl) rfl Fc Es (by decide) (by decide) (by decide) (by simp) rfl fun h56 W57 => ?_
  replace K := K.wr W57 (Or.inl (by simp))
  replace Es := Es.wr W57
  replace Fv := Fv.other W57 (Or.inr (slot_ne (Or.inl (hw _ (List.mem_of_getElem? (i := 159) rfl))) (Or.inl (hw _ (List.mem_of_getElem? (i := 161) rfl))) (by decide) (t := (.array .byte)) (t' := .byte) (by decide) (by decide)))
  replace Fc := Fc.same W57
  replace Fn := Fn.other W57 (Or.inr (slot_ne (Or.inl (hw _ (List.mem_of_getElem? (i := 173) rfl))) (Or.inl (hw _ (List.mem_of_getElem? (i := 161) rfl))) (by decide) (t := .int) (t' := .byte) (by decide) (by decide)))
  replace Aq' := Aq'.other W57 (Ne.symm ne_sb_q)
  replace Eb := Eb.wr W57
  refine goto (pc' := 38) d_jdk_68_method_2_22 (by decide) rfl ?_
  exact retV d_jdk_68_method_2_38 rfl (by decide) (by decide) ⟨q, rfl, K, sz_q, Es, Fv, Fc, Fn, ⟨kq, [0, 0, 0, 0], rfl, by decide, Aq', Eb⟩⟩
set_option maxRecDepth 65536 in
set_option maxHeartbeats 40000000 in
theorem rm_sbi (l : Launch) (Z : State) (a0 : Array Value) (hw : ∀ d ∈ tables_1, d.before a0 Z = true) (hEL : EW Z a0 consts_1) (n0 : Nat) (sb : Addr) (h : Heap) (Es : Exa Z h sb "java/lang/StringBuilder") (Fv : Fld Z h sb "java/lang/AbstractStringBuilder" "value" "[B" .null) (Fc : Fld Z h sb "java/lang/AbstractStringBuilder" "coder" "B" (.int (0 : Int32))) (Fn : Fld Z h sb "java/lang/AbstractStringBuilder" "count" "I" (.int (0 : Int32))) (hB : Sets Z) :
    Met l false Z consts_1 n0 (⟨"java/lang/StringBuilder", "<init>", "(I)V"⟩ : MethodName) jdk_67_method_2_code 2 none ({ frames := 2, cells := 1, slots := 4, locals := 40 } : Room) [] #[(.ref sb), (.int (4 : Int32))] [sb] h (fun v h' => ∃ b : Addr, v = none ∧ Keep h h' [sb] ∧ h.size ≤ b ∧ SBd Z h' sb b 0) := by
  refine Met.of_body (a0 := a0) (L0 := #[.val (.ref sb), .val (.int (4 : Int32))]) (plainFor_of_name (by first | (simp [plainName, overriddenIn]; done) | decide +kernel)) (fun m => by first | rfl | (simp [entryFrame, mkF, argsToLocals, Value.category]; done)) hw hEL (by decide) ?_
  refine aloadN (pc' := 1) d_jdk_67_method_2_0 rfl rfl rfl ?_
  refine iloadN (pc' := 2) d_jdk_67_method_2_1 rfl rfl ?_
  refine call (i := 155) (i2 := 154) (Wd := 0) (pc' := 5) (kInit (i := 150) (i2 := 151) (i4 := 155) (a := sb) (argsL := [(.int (4 : Int32))]) (S' := []) (Wd := 0) d_jdk_67_method_2_2 rfl rfl rfl rfl (by decide) rfl pd_9 rfl rfl (Nat.le_of_ble_eq_true rfl)) (rm_abi l Z a0 hw hEL n0 sb _ Es Fv Fc Fn hB) rfl rfl (by simp) (by decide) (by decide) (by decide) (by decide) rfl fun v_ h58 P59 sz60 => ?_
  obtain ⟨b, rfl, K2, hb2, H2⟩ := P59
  refine at' (ce' := 1) (sl' := 4) (pc' := 5) (L' := #[.val (.ref sb), .val (.int (4 : Int32))]) (S' := []) rfl rfl rfl rfl rfl ?_
  exact retV d_jdk_67_method_2_5 rfl (by decide) (by decide) ⟨b, rfl, K2, hb2, H2⟩
set_option maxRecDepth 65536 in
set_option maxHeartbeats 40000000 in
theorem rm_ens (l : Launch) (Z : State) (a0 : Array Value) (hw : ∀ d ∈ tables_1, d.before a0 Z = true) (hEL : EW Z a0 consts_1) (n0 : Nat) (sb b : Addr) (m : Int32) (h : Heap) (Fv : Fld Z h sb "java/lang/AbstractStringBuilder" "value" "[B" (.ref b)) (Fc : Fld Z h sb "java/lang/AbstractStringBuilder" "coder" "B" (.int (0 : Int32))) (Bb : BB Z h b) (hm : ¬ (0 : Int32) < m - 4) :
    Met l false Z consts_1 n0 (⟨"java/lang/AbstractStringBuilder", "ensureCapacityInternal", "(I)V"⟩ : MethodName) jdk_68_method_9_code 3 none ({ frames := 0, cells := 0, slots := 0, locals := 0 } : Room) [] #[(.ref sb), (.int m)] [] h (fun v h' => v = none ∧ h' = h) := by
  refine Met.of_body (a0 := a0) (L0 := #[.val (.ref sb), .val (.int m), .unset]) (plainFor_of_name (by first | (simp [plainName, overriddenIn]; done) | decide +kernel)) (fun m => by first | rfl | (simp [entryFrame, mkF, argsToLocals, Value.category]; done)) hw hEL (by decide) ?_
  obtain ⟨kb, cs, hl, hp, Ab, Eb⟩ := Bb
  refine aloadN (pc' := 1) d_jdk_68_method_9_0 rfl rfl rfl ?_
  refine getfield (i := 158) (pc' := 4) d_jdk_68_method_9_1 rfl Fv rfl ?_
  refine arraylength (pc' := 5) d_jdk_68_method_9_4 Ab rfl ?_
  refine aloadN (pc' := 6) d_jdk_68_method_9_5 rfl rfl rfl ?_
  refine getfield (i := 160) (pc' := 9) d_jdk_68_method_9_6 rfl Fc rfl ?_
  refine ishr (pc' := 10) d_jdk_68_method_9_9 rfl ?_
  rw [show ((4 : Int32) >>> ((0 : Int32) &&& 31)) = (4 : Int32) from by decide]
  refine istoreN (pc' := 11) (L' := #[.val (.ref sb), .val (.int m), .val (.int (4 : Int32))]) d_jdk_68_method_9_10 rfl rfl ?_
  refine iloadN (pc' := 12) d_jdk_68_method_9_11 rfl rfl ?_
  refine iloadN (pc' := 13) d_jdk_68_method_9_12 rfl rfl ?_
  refine isub (pc' := 14) d_jdk_68_method_9_13 rfl ?_
  refine ifT (pc' := 38) d_jdk_68_method_9_14 (hm : ¬ ((0 : Int32) < (m - (4 : Int32)))) (by decide) rfl ?_
  exact retV d_jdk_68_method_9_38 rfl (by decide) (by decide) ⟨rfl, rfl⟩
set_option maxRecDepth 65536 in
set_option maxHeartbeats 40000000 in
theorem rm_isA (l : Launch) (Z : State) (a0 : Array Value) (hw : ∀ d ∈ tables_1, d.before a0 Z = true) (hEL : EW Z a0 consts_1) (n0 : Nat) (sb : Addr) (h : Heap) (Fc : Fld Z h sb "java/lang/AbstractStringBuilder" "coder" "B" (.int (0 : Int32))) (hB : Sets Z) :
    Met l false Z consts_1 n0 (⟨"java/lang/AbstractStringBuilder", "isLatin1", "()Z"⟩ : MethodName) jdk_68_method_68_code 1 (some .boolean) ({ frames := 0, cells := 0, slots := 0, locals := 0 } : Room) [] #[(.ref sb)] [] h (fun v h' => v = some (.int 1) ∧ h' = h) := by
  refine Met.of_body (a0 := a0) (L0 := #[.val (.ref sb)]) (plainFor_of_name (by first | (simp [plainName, overriddenIn]; done) | decide +kernel)) (fun m => by first | rfl | (simp [entryFrame, mkF, argsToLocals, Value.category]; done)) hw hEL (by decide) ?_
  obtain ⟨zc, fm, Cs, hz, -, -⟩ := hB
  refine old fun O61 _ => ?_
  refine getstatic (i := 157) (v := (.int zc)) (pc' := 3) d_jdk_68_method_68_0 rfl (Cs.ext O61.2) rfl ?_
  refine ifF (pc' := 6) d_jdk_68_method_68_3 (hz : ¬ (zc = (0 : Int32))) rfl ?_
  refine aloadN (pc' := 7) d_jdk_68_method_68_6 rfl rfl rfl ?_
  refine getfield (i := 160) (pc' := 10) d_jdk_68_method_68_7 rfl Fc rfl ?_
  refine ifF (pc' := 13) d_jdk_68_method_68_10 (rfl : (0 : Int32) = (0 : Int32)) rfl ?_
  refine iconst (pc' := 14) (v := (1 : Int32)) d_jdk_68_method_68_13 rfl rfl ?_
  refine goto (pc' := 18) d_jdk_68_method_68_14 (by decide) rfl ?_
  exact retI d_jdk_68_method_68_18 rfl (Or.inr (Or.inl rfl)) rfl (by decide) (by decide) ⟨rfl, rfl⟩
set_option maxRecDepth 65536 in
set_option maxHeartbeats 40000000 in
theorem rm_canEnc (l : Launch) (Z : State) (a0 : Array Value) (hw : ∀ d ∈ tables_1, d.before a0 Z = true) (hEL : EW Z a0 consts_1) (n0 : Nat) (c : Int32) (h : Heap)  (hc : ¬ (255 : Int32) < c) :
    Met l false Z consts_1 n0 (⟨"java/lang/StringLatin1", "canEncode", "(C)Z"⟩ : MethodName) jdk_43_method_3_code 1 (some .boolean) ({ frames := 0, cells := 0, slots := 0, locals := 0 } : Room) [] #[(.int c)] [] h (fun v h' => v = some (.int 1) ∧ h' = h) := by
  refine Met.of_body (a0 := a0) (L0 := #[.val (.int c)]) (plainFor_of_name (by first | (simp [plainName, overriddenIn]; done) | decide +kernel)) (fun m => by first | rfl | (simp [entryFrame, mkF, argsToLocals, Value.category]; done)) hw hEL (by decide) ?_
  refine iloadN (pc' := 1) d_jdk_43_method_3_0 rfl rfl ?_
  refine sipush (pc' := 4) (v := (255 : Int32)) d_jdk_43_method_3_1 rfl rfl ?_
  refine icmpF (pc' := 7) d_jdk_43_method_3_4 (hc : ¬ ((255 : Int32) < c)) rfl ?_
  refine iconst (pc' := 8) (v := (1 : Int32)) d_jdk_43_method_3_7 rfl rfl ?_
  refine goto (pc' := 12) d_jdk_43_method_3_8 (by decide) rfl ?_
  exact retI d_jdk_43_method_3_12 rfl (Or.inr (Or.inl rfl)) rfl (by decide) (by decide) ⟨rfl, rfl⟩
set_option maxRecDepth 65536 in
set_option maxHeartbeats 40000000 in
theorem rm_aac (l : Launch) (Z : State) (a0 : Array Value) (hw : ∀ d ∈ tables_1, d.before a0 Z = true) (hEL : EW Z a0 consts_1) (n0 : Nat) (sb b : Addr) (c : Int32) (j : Nat) (h : Heap)  (hB : Sets Z) (Hs : SBd Z h sb b (Int32.ofNat j)) (hc : ok c) (hj : j < 4) :
    Met l false Z consts_1 n0 (⟨"java/lang/AbstractStringBuilder", "append", "(C)Ljava/lang/AbstractStringBuilder;"⟩ : MethodName) jdk_68_method_31_code 2 (some (.object "java/lang/AbstractStringBuilder")) ({ frames := 1, cells := 0, slots := 0, locals := 30 } : Room) [] #[(.ref sb), (.int c)] [sb, b] h (fun v h' => v = some (.ref sb) ∧ Keep h h' [sb, b] ∧ SBd Z h' sb b (Int32.ofNat (j + 1))) := by
  refine Met.of_body (a0 := a0) (L0 := #[.val (.ref sb), .val (.int c)]) (plainFor_of_name (by first | (simp [plainName, overriddenIn]; done) | decide +kernel)) (fun m => by first | rfl | (simp [entryFrame, mkF, argsToLocals, Value.category]; done)) hw hEL (by decide) ?_
  have K : Keep h h [sb, b] := Keep.refl _ _
  obtain ⟨Es, Fv, Fc, Fn, Bb⟩ := Hs
  obtain ⟨kb, cs, hl, hp, Ab, Eb⟩ := Bb
  have ne_sb_b : sb ≠ b := Es.neArv Ab (hw _ (List.mem_of_getElem? (i := 144) rfl))
  refine aloadN (pc' := 1) d_jdk_68_method_31_0 rfl rfl rfl ?_
  refine aloadN (pc' := 2) d_jdk_68_method_31_1 rfl rfl rfl ?_
  refine getfield (i := 172) (pc' := 5) d_jdk_68_method_31_2 rfl Fn rfl ?_
  refine iconst (pc' := 6) (v := (1 : Int32)) d_jdk_68_method_31_5 rfl rfl ?_
  refine iadd (pc' := 7) d_jdk_68_method_31_6 rfl ?_
  refine call (i := 178) (i2 := 154) (Wd := 0) (pc' := 10) (kPriv (i := 174) (i2 := 175) (i3 := 177) (i4 := 178) (i5 := 176) (a := sb) (argsL := [(.int ((Int32.ofNat j) + (1 : Int32)))]) (S' := []) (Wd := 0) d_jdk_68_method_31_7 rfl rfl rfl rfl rfl rfl Es (by decide) rfl pd_9 rfl rfl (Nat.le_of_ble_eq_true rfl)) (rm_ens l Z a0 hw hEL n0 sb b ((Int32.ofNat j) + (1 : Int32)) _ Fv Fc ⟨kb, cs, hl, hp, Ab, Eb⟩ (own_cap j hj)) rfl rfl (by simp) (by decide) (by decide) (by decide) (by decide) rfl fun v_ h62 P63 sz64 => ?_
  obtain ⟨rfl, e65⟩ := P63
  rw [e65]
  refine at' (ce' := 0) (sl' := 0) (pc' := 10) (L' := #[.val (.ref sb), .val (.int c)]) (S' := []) rfl rfl rfl rfl rfl ?_
  refine aloadN (pc' := 11) d_jdk_68_method_31_10 rfl rfl rfl ?_
  refine call (i := 183) (i2 := 154) (Wd := 0) (pc' := 14) (kVirt (i := 179) (i2 := 180) (i3 := 182) (i4 := 181) (C := "java/lang/StringBuilder") (a := sb) (argsL := []) (S' := []) (Wd := 0) d_jdk_68_method_31_11 rfl rfl rfl rfl Es (by decide) rfl pd_7 rfl rfl (Nat.le_of_ble_eq_true rfl)) (rm_isA l Z a0 hw hEL n0 sb _ Fc hB) rfl rfl (by simp) (by decide) (by decide) (by decide) (by decide) rfl fun v_ h66 P67 sz68 => ?_
  obtain ⟨rfl, e69⟩ := P67
  rw [e69]
  refine at' (ce' := 0) (sl' := 0) (pc' := 14) (L' := #[.val (.ref sb), .val (.int c)]) (S' := [(.int (1 : Int32))]) rfl rfl rfl rfl rfl ?_
  refine ifF (pc' := 17) d_jdk_68_method_31_14 (by decide : ¬ ((1 : Int32) = (0 : Int32))) rfl ?_
  refine iloadN (pc' := 18) d_jdk_68_method_31_17 rfl rfl ?_
  refine call (i := 186) (i2 := 99) (Wd := 0) (pc' := 21) (kStatic (i := 184) (i2 := 185) (i3 := 99) (i4 := 186) (argsL := [(.int c)]) (S' := []) (Wd := 0) d_jdk_68_method_31_18 rfl rfl rfl rfl (by decide) rfl pd_10 rfl rfl (Nat.le_of_ble_eq_true rfl)) (rm_canEnc l Z a0 hw hEL n0 c _ hc.2) rfl rfl (by simp) (by decide) (by decide) (by decide) (by decide) rfl fun v_ h70 P71 sz72 => ?_
  obtain ⟨rfl, e73⟩ := P71
  rw [e73]
  refine at' (ce' := 0) (sl' := 0) (pc' := 21) (L' := #[.val (.ref sb), .val (.int c)]) (S' := [(.int (1 : Int32))]) rfl rfl rfl rfl rfl ?_
  refine ifF (pc' := 24) d_jdk_68_method_31_21 (by decide : ¬ ((1 : Int32) = (0 : Int32))) rfl ?_
  refine aloadN (pc' := 25) d_jdk_68_method_31_24 rfl rfl rfl ?_
  refine getfield (i := 158) (pc' := 28) d_jdk_68_method_31_25 rfl Fv rfl ?_
  refine aloadN (pc' := 29) d_jdk_68_method_31_28 rfl rfl rfl ?_
  refine dup (pc' := 30) d_jdk_68_method_31_29 rfl rfl ?_
  refine getfield (i := 172) (pc' := 33) d_jdk_68_method_31_30 rfl Fn rfl ?_
  refine dup_x1 (pc' := 34) d_jdk_68_method_31_33 rfl rfl rfl ?_
  refine iconst (pc' := 35) (v := (1 : Int32)) d_jdk_68_method_31_34 rfl rfl ?_
  refine iadd (pc' := 36) d_jdk_68_method_31_35 rfl ?_
  refine putfield (i := 172) (i2 := 173) (i3 := 144) (pc' := 39) (v' := (.int ((Int32.ofNat j) + (1 : Int32)))) (ty := .int) d_jdk_68_method_31_36 rfl (Or.inl rfl) rfl Fn Es (by decide) rfl rfl (by simp) rfl fun h74 W75 => ?_
  replace K := K.wr W75 (Or.inl (by simp))
  replace Es := Es.wr W75
  replace Fv := Fv.other W75 (Or.inr (slot_ne (Or.inl (hw _ (List.mem_of_getElem? (i := 159) rfl))) (Or.inl (hw _ (List.mem_of_getElem? (i := 173) rfl))) (by decide) (t := (.array .byte)) (t' := .int) (by decide) (by decide)))
  replace Fc := Fc.other W75 (Or.inr (slot_ne (Or.inl (hw _ (List.mem_of_getElem? (i := 161) rfl))) (Or.inl (hw _ (List.mem_of_getElem? (i := 173) rfl))) (by decide) (t := .byte) (t' := .int) (by decide) (by decide)))
  replace Fn := Fn.same W75
  replace Ab := Ab.other W75 (Ne.symm ne_sb_b)
  replace Eb := Eb.wr W75
  refine iloadN (pc' := 40) d_jdk_68_method_31_39 rfl rfl ?_
  refine i2b (pc' := 41) d_jdk_68_method_31_40 rfl ?_
  refine bastore (pc' := 42) d_jdk_68_method_31_41 Ab ⟨own_nn _ (by omega), (own_lt j (by omega) 4 (by omega)).mpr hj⟩ (by simp) (by rw [own_cl _ (by omega), lat_len, hl]; exact hj) rfl fun hb Wb Ab2 => ?_
  replace K := K.wr Wb (Or.inl (by simp))
  replace Es := Es.wr Wb
  replace Fv := Fv.other Wb (Or.inl ne_sb_b)
  replace Fc := Fc.other Wb (Or.inl ne_sb_b)
  replace Fn := Fn.other Wb (Or.inl ne_sb_b)
  replace Eb := Eb.wr Wb
  rw [own_cl _ (by omega), lat_set] at Ab2
  refine goto (pc' := 75) d_jdk_68_method_31_42 (by decide) rfl ?_
  refine aloadN (pc' := 76) d_jdk_68_method_31_75 rfl rfl rfl ?_
  rw [show Int32.ofNat j + 1 = (Int32.ofNat (j + 1)) from own_ofn j 1] at Fn
  exact retA d_jdk_68_method_31_76 rfl rfl rfl (by decide) (by decide) ⟨rfl, K, Es, Fv, Fc, Fn, ⟨kb, cs.set j c, by rw [List.length_set]; exact hl, ok_set hp hc, Ab2, Eb⟩⟩
set_option maxRecDepth 65536 in
set_option maxHeartbeats 40000000 in
theorem rm_sac (l : Launch) (Z : State) (a0 : Array Value) (hw : ∀ d ∈ tables_1, d.before a0 Z = true) (hEL : EW Z a0 consts_1) (n0 : Nat) (sb b : Addr) (c : Int32) (j : Nat) (h : Heap)  (hB : Sets Z) (Hs : SBd Z h sb b (Int32.ofNat j)) (hc : ok c) (hj : j < 4) :
    Met l false Z consts_1 n0 (⟨"java/lang/StringBuilder", "append", "(C)Ljava/lang/StringBuilder;"⟩ : MethodName) jdk_67_method_14_code 2 (some (.object "java/lang/StringBuilder")) ({ frames := 2, cells := 0, slots := 0, locals := 50 } : Room) [] #[(.ref sb), (.int c)] [sb, b] h (fun v h' => v = some (.ref sb) ∧ Keep h h' [sb, b] ∧ SBd Z h' sb b (Int32.ofNat (j + 1))) := by
  refine Met.of_body (a0 := a0) (L0 := #[.val (.ref sb), .val (.int c)]) (plainFor_of_name (by first | (simp [plainName, overriddenIn]; done) | decide +kernel)) (fun m => by first | rfl | (simp [entryFrame, mkF, argsToLocals, Value.category]; done)) hw hEL (by decide) ?_
  refine aloadN (pc' := 1) d_jdk_67_method_14_0 rfl rfl rfl ?_
  refine iloadN (pc' := 2) d_jdk_67_method_14_1 rfl rfl ?_
  refine call (i := 171) (i2 := 154) (Wd := 0) (pc' := 5) (kSuper (i := 167) (i2 := 168) (i3 := 177) (i4 := 171) (i5 := 169) (a := sb) (argsL := [(.int c)]) (S' := []) (Wd := 0) d_jdk_67_method_14_2 rfl rfl rfl rfl rfl rfl (by decide) (Ins.self (Hs.1)) (by decide) rfl pd_11 rfl rfl (Nat.le_of_ble_eq_true rfl)) (rm_aac l Z a0 hw hEL n0 sb b c j _ hB Hs hc hj) rfl rfl (by simp) (by decide) (by decide) (by decide) (by decide) rfl fun v_ h76 P77 sz78 => ?_
  obtain ⟨rfl, K2, H2⟩ := P77
  refine at' (ce' := 0) (sl' := 0) (pc' := 5) (L' := #[.val (.ref sb), .val (.int c)]) (S' := [(.ref sb)]) rfl rfl rfl rfl rfl ?_
  refine Ow.pop (pc' := 6) d_jdk_67_method_14_5 rfl rfl ?_
  refine aloadN (pc' := 7) d_jdk_67_method_14_6 rfl rfl rfl ?_
  exact retA d_jdk_67_method_14_7 rfl rfl rfl (by decide) (by decide) ⟨rfl, K2, H2⟩
set_option maxRecDepth 65536 in
set_option maxHeartbeats 40000000 in
theorem rm_sv (l : Launch) (Z : State) (a0 : Array Value) (hw : ∀ d ∈ tables_1, d.before a0 Z = true) (hEL : EW Z a0 consts_1) (n0 : Nat) (x t : Addr) (h : Heap) (Fv : Fld Z h x "java/lang/String" "value" "[B" (.ref t))  :
    Met l false Z consts_1 n0 (⟨"java/lang/String", "value", "()[B"⟩ : MethodName) jdk_42_method_153_code 1 (some (.array .byte)) ({ frames := 0, cells := 0, slots := 0, locals := 0 } : Room) [] #[(.ref x)] [] h (fun v h' => v = some (.ref t) ∧ h' = h) := by
  refine Met.of_body (a0 := a0) (L0 := #[.val (.ref x)]) (plainFor_of_name (by first | (simp [plainName, overriddenIn]; done) | decide +kernel)) (fun m => by first | rfl | (simp [entryFrame, mkF, argsToLocals, Value.category]; done)) hw hEL (by decide) ?_
  refine aloadN (pc' := 1) d_jdk_42_method_153_0 rfl rfl rfl ?_
  refine getfield (i := 28) (pc' := 4) d_jdk_42_method_153_1 rfl Fv rfl ?_
  exact retA d_jdk_42_method_153_4 rfl rfl rfl (by decide) (by decide) ⟨rfl, rfl⟩
set_option maxRecDepth 65536 in
set_option maxHeartbeats 40000000 in
theorem rm_ac (l : Launch) (Z : State) (a0 : Array Value) (hw : ∀ d ∈ tables_1, d.before a0 Z = true) (hEL : EW Z a0 consts_1) (n0 : Nat) (sb b x : Addr) (xs : List Int32) (f j : Nat) (h : Heap)  (hB : Sets Z) (Hs : SBd Z h sb b (Int32.ofNat j)) (Sx : Str Z h x xs) (hf : f < xs.length) (hn : xs.length < 8) (hj : j < 4) :
    Met l false Z consts_1 n0 (⟨"java/lang/AbstractStringBuilder", "appendChars", "(Ljava/lang/String;II)V"⟩ : MethodName) jdk_68_method_75_code 8 none ({ frames := 1, cells := 0, slots := 0, locals := 50 } : Room) [] #[(.ref sb), (.ref x), (.int (Int32.ofNat f)), (.int (Int32.ofNat (f + 1)))] [sb, b] h (fun v h' => v = none ∧ Keep h h' [sb, b] ∧ SBd Z h' sb b (Int32.ofNat (j + 1))) := by
  refine Met.of_body (a0 := a0) (L0 := #[.val (.ref sb), .val (.ref x), .val (.int (Int32.ofNat f)), .val (.int (Int32.ofNat (f + 1))), .unset, .unset, .unset, .unset]) (plainFor_of_name (by first | (simp [plainName, overriddenIn]; done) | decide +kernel)) (fun m => by first | rfl | (simp [entryFrame, mkF, argsToLocals, Value.category]; done)) hw hEL (by decide) ?_
  have K : Keep h h [sb, b] := Keep.refl _ _
  obtain ⟨Es, Fv, Fc, Fn, Bb⟩ := Hs
  obtain ⟨kb, cs, hl, hp, Ab, Eb⟩ := Bb
  have ne_sb_b : sb ≠ b := Es.neArv Ab (hw _ (List.mem_of_getElem? (i := 144) rfl))
  obtain ⟨Ex, Fc', ⟨t, kt, Fv', At⟩, hp', l2⟩ := id Sx
  refine aloadN (pc' := 1) d_jdk_68_method_75_0 rfl rfl rfl ?_
  refine call (i := 183) (i2 := 154) (Wd := 0) (pc' := 4) (kVirt (i := 179) (i2 := 180) (i3 := 182) (i4 := 181) (C := "java/lang/StringBuilder") (a := sb) (argsL := []) (S' := []) (Wd := 0) d_jdk_68_method_75_1 rfl rfl rfl rfl Es (by decide) rfl pd_7 rfl rfl (Nat.le_of_ble_eq_true rfl)) (rm_isA l Z a0 hw hEL n0 sb _ Fc hB) rfl rfl (by simp) (by decide) (by decide) (by decide) (by decide) rfl fun v_ h79 P80 sz81 => ?_
  obtain ⟨rfl, e82⟩ := P80
  rw [e82]
  refine at' (ce' := 0) (sl' := 0) (pc' := 4) (L' := #[.val (.ref sb), .val (.ref x), .val (.int (Int32.ofNat f)), .val (.int (Int32.ofNat (f + 1))), .unset, .unset, .unset, .unset]) (S' := [(.int (1 : Int32))]) rfl rfl rfl rfl rfl ?_
  refine ifF (pc' := 7) d_jdk_68_method_75_4 (by decide : ¬ ((1 : Int32) = (0 : Int32))) rfl ?_
  refine aloadN (pc' := 8) d_jdk_68_method_75_7 rfl rfl rfl ?_
  refine call (i := 96) (i2 := 3) (Wd := 0) (pc' := 11) (kVirt (i := 222) (i2 := 93) (i3 := 95) (i4 := 94) (C := "java/lang/String") (a := x) (argsL := []) (S' := []) (Wd := 0) d_jdk_68_method_75_8 rfl rfl rfl rfl Ex (by decide) rfl pd_7 rfl rfl (Nat.le_of_ble_eq_true rfl)) (rm_isl l Z a0 hw hEL n0 x _ Fc' hB) rfl rfl (by simp) (by decide) (by decide) (by decide) (by decide) rfl fun v_ h83 P84 sz85 => ?_
  obtain ⟨rfl, e86⟩ := P84
  rw [e86]
  refine at' (ce' := 0) (sl' := 0) (pc' := 11) (L' := #[.val (.ref sb), .val (.ref x), .val (.int (Int32.ofNat f)), .val (.int (Int32.ofNat (f + 1))), .unset, .unset, .unset, .unset]) (S' := [(.int (1 : Int32))]) rfl rfl rfl rfl rfl ?_
  refine ifF (pc' := 14) d_jdk_68_method_75_11 (by decide : ¬ ((1 : Int32) = (0 : Int32))) rfl ?_
  refine aloadN (pc' := 15) d_jdk_68_method_75_14 rfl rfl rfl ?_
  refine call (i := 227) (i2 := 3) (Wd := 0) (pc' := 18) (kVirt (i := 223) (i2 := 224) (i3 := 226) (i4 := 225) (C := "java/lang/String") (a := x) (argsL := []) (S' := []) (Wd := 0) d_jdk_68_method_75_15 rfl rfl rfl rfl Ex (by decide) rfl pd_12 rfl rfl (Nat.le_of_ble_eq_true rfl)) (rm_sv l Z a0 hw hEL n0 x t _ Fv') rfl rfl (by simp) (by decide) (by decide) (by decide) (by decide) rfl fun v_ h87 P88 sz89 => ?_
  obtain ⟨rfl, e90⟩ := P88
  rw [e90]
  refine at' (ce' := 0) (sl' := 0) (pc' := 18) (L' := #[.val (.ref sb), .val (.ref x), .val (.int (Int32.ofNat f)), .val (.int (Int32.ofNat (f + 1))), .unset, .unset, .unset, .unset]) (S' := [(.ref t)]) rfl rfl rfl rfl rfl ?_
  refine iloadN (pc' := 19) d_jdk_68_method_75_18 rfl rfl ?_
  refine aloadN (pc' := 20) d_jdk_68_method_75_19 rfl rfl rfl ?_
  refine getfield (i := 158) (pc' := 23) d_jdk_68_method_75_20 rfl Fv rfl ?_
  refine aloadN (pc' := 24) d_jdk_68_method_75_23 rfl rfl rfl ?_
  refine getfield (i := 172) (pc' := 27) d_jdk_68_method_75_24 rfl Fn rfl ?_
  refine iloadN (pc' := 28) d_jdk_68_method_75_27 rfl rfl ?_
  refine iloadN (pc' := 29) d_jdk_68_method_75_28 rfl rfl ?_
  refine isub (pc' := 30) d_jdk_68_method_75_29 rfl ?_
  rw [own_sb _ (by omega) _ (by omega) (by omega), Nat.add_sub_cancel_left]
  refine copyArr (i1 := 228) (i2 := 119) (i3 := 117) (i4 := 118) (Wd := 0) (pc' := 33) d_jdk_68_method_75_30 rfl rfl rfl rfl At Ab rfl (own_nn _ (by omega)) (own_nn _ (by omega)) (by decide) (by rw [own_cl _ (by omega), own_cl 1 (by decide), own_cl _ (by omega)]; omega) (by rw [own_cl _ (by omega), own_cl 1 (by decide)]; show j + 1 ≤ 4; omega) (by rw [own_cl _ (by omega), own_cl 1 (by decide), lat_len, hl]; omega) (by simp) rfl (by decide) (by decide) (by decide) rfl fun hz Kz Az => ?_
  replace K := K.trans Kz (allS (Or.inl (by simp)) all0)
  replace Es := Es.keep Kz
  replace Fv := Fv.keep Kz (ninS ne_sb_b nin0)
  replace Fc := Fc.keep Kz (ninS ne_sb_b nin0)
  replace Fn := Fn.keep Kz (ninS ne_sb_b nin0)
  replace Eb := Eb.keep Kz
  rw [own_cl j (by omega), own_cl f (by omega), own_cl 1 (by decide), lat_put hf] at Az
  refine goto (pc' := 194) d_jdk_68_method_75_33 (by decide) rfl ?_
  refine aloadN (pc' := 195) d_jdk_68_method_75_194 rfl rfl rfl ?_
  refine dup (pc' := 196) d_jdk_68_method_75_195 rfl rfl ?_
  refine getfield (i := 172) (pc' := 199) d_jdk_68_method_75_196 rfl Fn rfl ?_
  refine iloadN (pc' := 200) d_jdk_68_method_75_199 rfl rfl ?_
  refine iloadN (pc' := 201) d_jdk_68_method_75_200 rfl rfl ?_
  refine isub (pc' := 202) d_jdk_68_method_75_201 rfl ?_
  rw [own_sb _ (by omega) _ (by omega) (by omega), Nat.add_sub_cancel_left]
  refine iadd (pc' := 203) d_jdk_68_method_75_202 rfl ?_
  rw [own_ofn]
  refine putfield (i := 172) (i2 := 173) (i3 := 144) (pc' := 206) (v' := (.int (Int32.ofNat (j + 1)))) (ty := .int) d_jdk_68_method_75_203 rfl (Or.inl rfl) rfl Fn Es (by decide) rfl rfl (by simp) rfl fun h91 W92 => ?_
  replace K := K.wr W92 (Or.inl (by simp))
  replace Es := Es.wr W92
  replace Fv := Fv.other W92 (Or.inr (slot_ne (Or.inl (hw _ (List.mem_of_getElem? (i := 159) rfl))) (Or.inl (hw _ (List.mem_of_getElem? (i := 173) rfl))) (by decide) (t := (.array .byte)) (t' := .int) (by decide) (by decide)))
  replace Fc := Fc.other W92 (Or.inr (slot_ne (Or.inl (hw _ (List.mem_of_getElem? (i := 161) rfl))) (Or.inl (hw _ (List.mem_of_getElem? (i := 173) rfl))) (by decide) (t := .byte) (t' := .int) (by decide) (by decide)))
  replace Fn := Fn.same W92
  replace Eb := Eb.wr W92
  replace Az := Az.other W92 (Ne.symm ne_sb_b)
  exact retV d_jdk_68_method_75_206 rfl (by decide) (by decide) ⟨rfl, K, Es, Fv, Fc, Fn, ⟨kb, _, put_len hl hj, put_ok hp (ok_get hp' hf), Az, Eb⟩⟩
set_option maxRecDepth 65536 in
set_option maxHeartbeats 40000000 in
theorem rm_acs (l : Launch) (Z : State) (a0 : Array Value) (hw : ∀ d ∈ tables_1, d.before a0 Z = true) (hEL : EW Z a0 consts_1) (n0 : Nat) (sb b x : Addr) (xs : List Int32) (f j : Nat) (h : Heap)  (hB : Sets Z) (hI : Iof Z) (Hs : SBd Z h sb b (Int32.ofNat j)) (Sx : Str Z h x xs) (hf : f < xs.length) (hn : xs.length < 8) (hj : j < 4) :
    Met l false Z consts_1 n0 (⟨"java/lang/AbstractStringBuilder", "append", "(Ljava/lang/CharSequence;II)Ljava/lang/AbstractStringBuilder;"⟩ : MethodName) jdk_68_method_27_code 5 (some (.object "java/lang/AbstractStringBuilder")) ({ frames := 2, cells := 0, slots := 0, locals := 90 } : Room) [] #[(.ref sb), (.ref x), (.int (Int32.ofNat f)), (.int (Int32.ofNat (f + 1)))] [sb, b] h (fun v h' => v = some (.ref sb) ∧ Keep h h' [sb, b] ∧ SBd Z h' sb b (Int32.ofNat (j + 1))) := by
  refine Met.of_body (a0 := a0) (L0 := #[.val (.ref sb), .val (.ref x), .val (.int (Int32.ofNat f)), .val (.int (Int32.ofNat (f + 1))), .unset]) (plainFor_of_name (by first | (simp [plainName, overriddenIn]; done) | decide +kernel)) (fun m => by first | rfl | (simp [entryFrame, mkF, argsToLocals, Value.category]; done)) hw hEL (by decide) ?_
  obtain ⟨fm, Sg, hfm⟩ := hI
  obtain ⟨Es, Fv, Fc, Fn, Bb⟩ := id Hs
  refine aloadN (pc' := 1) d_jdk_68_method_27_0 rfl rfl rfl ?_
  refine ifnonnullT (pc' := 7) d_jdk_68_method_27_1 (by decide) rfl ?_
  refine iloadN (pc' := 8) d_jdk_68_method_27_7 rfl rfl ?_
  refine iloadN (pc' := 9) d_jdk_68_method_27_8 rfl rfl ?_
  refine aloadN (pc' := 10) d_jdk_68_method_27_9 rfl rfl rfl ?_
  refine strLen (i := 2) (Wd := 2) (cs := xs) (pc' := 15) hB (by decide +kernel) rfl (kIface (i := 206) (i2 := 207) (i3 := 208) (i4 := 209) (i5 := 76) (i6 := 210) (i7 := 211) (i8 := 212) (C := "java/lang/String") (a := x) (argsL := []) (S' := [(.int (Int32.ofNat (f + 1))), (.int (Int32.ofNat f))]) (Wd := 2) d_jdk_68_method_27_10 rfl rfl rfl rfl rfl rfl rfl rfl Sx.exa (by decide) rfl pd_5 rfl rfl (Nat.le_of_ble_eq_true rfl)) Sx (by decide) (by decide) (by decide) (by decide) rfl ?_
  refine at' (ce' := 0) (sl' := 0) (pc' := 15) (L' := #[.val (.ref sb), .val (.ref x), .val (.int (Int32.ofNat f)), .val (.int (Int32.ofNat (f + 1))), .unset]) (S' := [(.int (Int32.ofNat (xs).length)), (.int (Int32.ofNat (f + 1))), (.int (Int32.ofNat f))]) rfl rfl rfl rfl rfl ?_
  have J22 : Wq l false Z consts_1 a0 n0 (⟨"java/lang/AbstractStringBuilder", "append", "(Ljava/lang/CharSequence;II)Ljava/lang/AbstractStringBuilder;"⟩ : MethodName) jdk_68_method_27_code 5 (some (.object "java/lang/AbstractStringBuilder")) ({ frames := 2, cells := 0, slots := 0, locals := 90 } : Room) h (fun v h' => v = some (.ref sb) ∧ Keep h h' [sb, b] ∧ SBd Z h' sb b (Int32.ofNat (j + 1))) [sb, b] h 0 0 22 #[.val (.ref sb), .val (.ref x), .val (.int (Int32.ofNat f)), .val (.int (Int32.ofNat (f + 1))), .unset] [] := by
    refine iloadN (pc' := 23) d_jdk_68_method_27_22 rfl rfl ?_
    refine iloadN (pc' := 24) d_jdk_68_method_27_23 rfl rfl ?_
    refine isub (pc' := 25) d_jdk_68_method_27_24 rfl ?_
    rw [own_sb _ (by omega) _ (by omega) (by omega), Nat.add_sub_cancel_left]
    refine istore (pc' := 27) (L' := #[.val (.ref sb), .val (.ref x), .val (.int (Int32.ofNat f)), .val (.int (Int32.ofNat (f + 1))), .val (.int (Int32.ofNat 1))]) d_jdk_68_method_27_25 rfl rfl ?_
    refine aloadN (pc' := 28) d_jdk_68_method_27_27 rfl rfl rfl ?_
    refine aloadN (pc' := 29) d_jdk_68_method_27_28 rfl rfl rfl ?_
    refine getfield (i := 172) (pc' := 32) d_jdk_68_method_27_29 rfl Fn rfl ?_
    refine iload (pc' := 34) d_jdk_68_method_27_32 rfl rfl ?_
    refine iadd (pc' := 35) d_jdk_68_method_27_34 rfl ?_
    refine call (i := 178) (i2 := 154) (Wd := 0) (pc' := 38) (kPriv (i := 174) (i2 := 175) (i3 := 177) (i4 := 178) (i5 := 176) (a := sb) (argsL := [(.int ((Int32.ofNat j) + (Int32.ofNat 1)))]) (S' := []) (Wd := 0) d_jdk_68_method_27_35 rfl rfl rfl rfl rfl rfl Es (by decide) rfl pd_9 rfl rfl (Nat.le_of_ble_eq_true rfl)) (rm_ens l Z a0 hw hEL n0 sb b ((Int32.ofNat j) + (Int32.ofNat 1)) _ Fv Fc Bb (own_cap j hj)) rfl rfl (by simp) (by decide) (by decide) (by decide) (by decide) rfl fun v_ h93 P94 sz95 => ?_
    obtain ⟨rfl, e96⟩ := P94
    rw [e96]
    refine at' (ce' := 0) (sl' := 0) (pc' := 38) (L' := #[.val (.ref sb), .val (.ref x), .val (.int (Int32.ofNat f)), .val (.int (Int32.ofNat (f + 1))), .val (.int (Int32.ofNat 1))]) (S' := []) rfl rfl rfl rfl rfl ?_
    refine aloadN (pc' := 39) d_jdk_68_method_27_38 rfl rfl rfl ?_
    refine instanceofY (i := 216) (pc' := 42) d_jdk_68_method_27_39 rfl (Ins.self Sx.exa) rfl ?_
    refine ifF (pc' := 45) d_jdk_68_method_27_42 (by decide : ¬ ((1 : Int32) = (0 : Int32))) rfl ?_
    refine aloadN (pc' := 46) d_jdk_68_method_27_45 rfl rfl rfl ?_
    refine aloadN (pc' := 47) d_jdk_68_method_27_46 rfl rfl rfl ?_
    refine checkcast (i := 216) (pc' := 50) d_jdk_68_method_27_47 rfl (Ins.self Sx.exa) rfl ?_
    refine iloadN (pc' := 51) d_jdk_68_method_27_50 rfl rfl ?_
    refine iloadN (pc' := 52) d_jdk_68_method_27_51 rfl rfl ?_
    refine call (i := 221) (i2 := 154) (Wd := 0) (pc' := 55) (kPriv (i := 217) (i2 := 218) (i3 := 177) (i4 := 221) (i5 := 219) (a := sb) (argsL := [(.ref x), (.int (Int32.ofNat f)), (.int (Int32.ofNat (f + 1)))]) (S' := []) (Wd := 0) d_jdk_68_method_27_52 rfl rfl rfl rfl rfl rfl Es (by decide) rfl pd_13 rfl rfl (Nat.le_of_ble_eq_true rfl)) (rm_ac l Z a0 hw hEL n0 sb b x xs f j _ hB Hs Sx hf hn hj) rfl rfl (by simp) (by decide) (by decide) (by decide) (by decide) rfl fun v_ h97 P98 sz99 => ?_
    obtain ⟨rfl, K2, H2⟩ := P98
    refine at' (ce' := 0) (sl' := 0) (pc' := 55) (L' := #[.val (.ref sb), .val (.ref x), .val (.int (Int32.ofNat f)), .val (.int (Int32.ofNat (f + 1))), .val (.int (Int32.ofNat 1))]) (S' := []) rfl rfl rfl rfl rfl ?_
    refine goto (pc' := 65) d_jdk_68_method_27_55 (by decide) rfl ?_
    refine aloadN (pc' := 66) d_jdk_68_method_27_65 rfl rfl rfl ?_
    exact retA d_jdk_68_method_27_66 rfl rfl rfl (by decide) (by decide) ⟨rfl, K2, H2⟩
  rcases own_ref hfm with rfl | ⟨g, rfl⟩
  · skip
    refine old fun O100 _ => ?_
    refine getstatic (i := 213) (v := .null) (pc' := 18) d_jdk_68_method_27_15 rfl (Sg.ext O100.2) rfl ?_
    refine call (i := 91) (i2 := 88) (Wd := 0) (pc' := 21) (kStatic (i := 215) (i2 := 90) (i3 := 88) (i4 := 91) (argsL := [(.int (Int32.ofNat f)), (.int (Int32.ofNat (f + 1))), (.int (Int32.ofNat (xs).length)), .null]) (S' := []) (Wd := 0) d_jdk_68_method_27_18 rfl rfl rfl rfl (by decide) rfl pd_0 rfl rfl (Nat.le_of_ble_eq_true rfl)) (rm_cftN l Z a0 hw hEL n0 (Int32.ofNat f) (Int32.ofNat (f + 1)) (Int32.ofNat xs.length) _ (own_nn _ (by omega)) (fun q => absurd ((own_lt _ (by omega) _ (by omega)).mp q) (by omega)) (fun q => absurd ((own_lt _ (by omega) _ (by omega)).mp q) (by omega))) rfl rfl (by simp) (by decide) (by decide) (by decide) (by decide) rfl fun v_ h101 P102 sz103 => ?_
    obtain ⟨rfl, e104⟩ := P102
    rw [e104]
    refine at' (ce' := 0) (sl' := 0) (pc' := 21) (L' := #[.val (.ref sb), .val (.ref x), .val (.int (Int32.ofNat f)), .val (.int (Int32.ofNat (f + 1))), .unset]) (S' := [(.int (Int32.ofNat f))]) rfl rfl rfl rfl rfl ?_
    refine Ow.pop (pc' := 22) d_jdk_68_method_27_21 rfl rfl ?_
    exact J22
  · skip
    refine old fun O105 _ => ?_
    refine getstatic (i := 213) (v := (.ref g)) (pc' := 18) d_jdk_68_method_27_15 rfl (Sg.ext O105.2) rfl ?_
    refine call (i := 91) (i2 := 88) (Wd := 0) (pc' := 21) (kStatic (i := 215) (i2 := 90) (i3 := 88) (i4 := 91) (argsL := [(.int (Int32.ofNat f)), (.int (Int32.ofNat (f + 1))), (.int (Int32.ofNat (xs).length)), (.ref g)]) (S' := []) (Wd := 0) d_jdk_68_method_27_18 rfl rfl rfl rfl (by decide) rfl pd_0 rfl rfl (Nat.le_of_ble_eq_true rfl)) (rm_cftR l Z a0 hw hEL n0 (Int32.ofNat f) (Int32.ofNat (f + 1)) (Int32.ofNat xs.length) g _ (own_nn _ (by omega)) (fun q => absurd ((own_lt _ (by omega) _ (by omega)).mp q) (by omega)) (fun q => absurd ((own_lt _ (by omega) _ (by omega)).mp q) (by omega))) rfl rfl (by simp) (by decide) (by decide) (by decide) (by decide) rfl fun v_ h106 P107 sz108 => ?_
    obtain ⟨rfl, e109⟩ := P107
    rw [e109]
    refine at' (ce' := 0) (sl' := 0) (pc' := 21) (L' := #[.val (.ref sb), .val (.ref x), .val (.int (Int32.ofNat f)), .val (.int (Int32.ofNat (f + 1))), .unset]) (S' := [(.int (Int32.ofNat f))]) rfl rfl rfl rfl rfl ?_
    refine Ow.pop (pc' := 22) d_jdk_68_method_27_21 rfl rfl ?_
    exact J22
set_option maxRecDepth 65536 in
set_option maxHeartbeats 40000000 in
theorem rm_sacs (l : Launch) (Z : State) (a0 : Array Value) (hw : ∀ d ∈ tables_1, d.before a0 Z = true) (hEL : EW Z a0 consts_1) (n0 : Nat) (sb b x : Addr) (xs : List Int32) (f j : Nat) (h : Heap)  (hB : Sets Z) (hI : Iof Z) (Hs : SBd Z h sb b (Int32.ofNat j)) (Sx : Str Z h x xs) (hf : f < xs.length) (hn : xs.length < 8) (hj : j < 4) :
    Met l false Z consts_1 n0 (⟨"java/lang/StringBuilder", "append", "(Ljava/lang/CharSequence;II)Ljava/lang/StringBuilder;"⟩ : MethodName) jdk_67_method_10_code 4 (some (.object "java/lang/StringBuilder")) ({ frames := 3, cells := 0, slots := 0, locals := 110 } : Room) [] #[(.ref sb), (.ref x), (.int (Int32.ofNat f)), (.int (Int32.ofNat (f + 1)))] [sb, b] h (fun v h' => v = some (.ref sb) ∧ Keep h h' [sb, b] ∧ SBd Z h' sb b (Int32.ofNat (j + 1))) := by
  refine Met.of_body (a0 := a0) (L0 := #[.val (.ref sb), .val (.ref x), .val (.int (Int32.ofNat f)), .val (.int (Int32.ofNat (f + 1)))]) (plainFor_of_name (by first | (simp [plainName, overriddenIn]; done) | decide +kernel)) (fun m => by first | rfl | (simp [entryFrame, mkF, argsToLocals, Value.category]; done)) hw hEL (by decide) ?_
  refine aloadN (pc' := 1) d_jdk_67_method_10_0 rfl rfl rfl ?_
  refine aloadN (pc' := 2) d_jdk_67_method_10_1 rfl rfl rfl ?_
  refine iloadN (pc' := 3) d_jdk_67_method_10_2 rfl rfl ?_
  refine iloadN (pc' := 4) d_jdk_67_method_10_3 rfl rfl ?_
  refine call (i := 205) (i2 := 154) (Wd := 0) (pc' := 7) (kSuper (i := 202) (i2 := 203) (i3 := 177) (i4 := 205) (i5 := 169) (a := sb) (argsL := [(.ref x), (.int (Int32.ofNat f)), (.int (Int32.ofNat (f + 1)))]) (S' := []) (Wd := 0) d_jdk_67_method_10_4 rfl rfl rfl rfl rfl rfl (by decide) (Ins.self (Hs.1)) (by decide) rfl pd_14 rfl rfl (Nat.le_of_ble_eq_true rfl)) (rm_acs l Z a0 hw hEL n0 sb b x xs f j _ hB hI Hs Sx hf hn hj) rfl rfl (by simp) (by decide) (by decide) (by decide) (by decide) rfl fun v_ h110 P111 sz112 => ?_
  obtain ⟨rfl, K2, H2⟩ := P111
  refine at' (ce' := 0) (sl' := 0) (pc' := 7) (L' := #[.val (.ref sb), .val (.ref x), .val (.int (Int32.ofNat f)), .val (.int (Int32.ofNat (f + 1)))]) (S' := [(.ref sb)]) rfl rfl rfl rfl rfl ?_
  refine Ow.pop (pc' := 8) d_jdk_67_method_10_7 rfl rfl ?_
  refine aloadN (pc' := 9) d_jdk_67_method_10_8 rfl rfl rfl ?_
  exact retA d_jdk_67_method_10_9 rfl rfl rfl (by decide) (by decide) ⟨rfl, K2, H2⟩
set_option maxRecDepth 65536 in
set_option maxHeartbeats 40000000 in
theorem rm_gv (l : Launch) (Z : State) (a0 : Array Value) (hw : ∀ d ∈ tables_1, d.before a0 Z = true) (hEL : EW Z a0 consts_1) (n0 : Nat) (sb b : Addr) (h : Heap) (Fv : Fld Z h sb "java/lang/AbstractStringBuilder" "value" "[B" (.ref b))  :
    Met l false Z consts_1 n0 (⟨"java/lang/AbstractStringBuilder", "getValue", "()[B"⟩ : MethodName) jdk_68_method_64_code 1 (some (.array .byte)) ({ frames := 0, cells := 0, slots := 0, locals := 0 } : Room) [] #[(.ref sb)] [] h (fun v h' => v = some (.ref b) ∧ h' = h) := by
  refine Met.of_body (a0 := a0) (L0 := #[.val (.ref sb)]) (plainFor_of_name (by first | (simp [plainName, overriddenIn]; done) | decide +kernel)) (fun m => by first | rfl | (simp [entryFrame, mkF, argsToLocals, Value.category]; done)) hw hEL (by decide) ?_
  refine aloadN (pc' := 1) d_jdk_68_method_64_0 rfl rfl rfl ?_
  refine getfield (i := 158) (pc' := 4) d_jdk_68_method_64_1 rfl Fv rfl ?_
  exact retA d_jdk_68_method_64_4 rfl rfl rfl (by decide) (by decide) ⟨rfl, rfl⟩
set_option maxRecDepth 65536 in
set_option maxHeartbeats 40000000 in
theorem rm_aln (l : Launch) (Z : State) (a0 : Array Value) (hw : ∀ d ∈ tables_1, d.before a0 Z = true) (hEL : EW Z a0 consts_1) (n0 : Nat) (sb : Addr) (n : Int32) (h : Heap) (Fn : Fld Z h sb "java/lang/AbstractStringBuilder" "count" "I" (.int n))  :
    Met l false Z consts_1 n0 (⟨"java/lang/AbstractStringBuilder", "length", "()I"⟩ : MethodName) jdk_68_method_6_code 1 (some .int) ({ frames := 0, cells := 0, slots := 0, locals := 0 } : Room) [] #[(.ref sb)] [] h (fun v h' => v = some (.int n) ∧ h' = h) := by
  refine Met.of_body (a0 := a0) (L0 := #[.val (.ref sb)]) (plainFor_of_name (by first | (simp [plainName, overriddenIn]; done) | decide +kernel)) (fun m => by first | rfl | (simp [entryFrame, mkF, argsToLocals, Value.category]; done)) hw hEL (by decide) ?_
  refine aloadN (pc' := 1) d_jdk_68_method_6_0 rfl rfl rfl ?_
  refine getfield (i := 172) (pc' := 4) d_jdk_68_method_6_1 rfl Fn rfl ?_
  exact retI d_jdk_68_method_6_4 rfl (Or.inl rfl) rfl (by decide) (by decide) ⟨rfl, rfl⟩
set_option maxRecDepth 65536 in
set_option maxHeartbeats 40000000 in
theorem rm_sln (l : Launch) (Z : State) (a0 : Array Value) (hw : ∀ d ∈ tables_1, d.before a0 Z = true) (hEL : EW Z a0 consts_1) (n0 : Nat) (sb : Addr) (n : Int32) (h : Heap) (Es : Exa Z h sb "java/lang/StringBuilder") (Fn : Fld Z h sb "java/lang/AbstractStringBuilder" "count" "I" (.int n))  :
    Met l false Z consts_1 n0 (⟨"java/lang/StringBuilder", "length", "()I"⟩ : MethodName) jdk_67_method_93_code 1 (some .int) ({ frames := 1, cells := 0, slots := 0, locals := 20 } : Room) [] #[(.ref sb)] [] h (fun v h' => v = some (.int n) ∧ h' = h) := by
  refine Met.of_body (a0 := a0) (L0 := #[.val (.ref sb)]) (plainFor_of_name (by first | (simp [plainName, overriddenIn]; done) | decide +kernel)) (fun m => by first | rfl | (simp [entryFrame, mkF, argsToLocals, Value.category]; done)) hw hEL (by decide) ?_
  refine aloadN (pc' := 1) d_jdk_67_method_93_0 rfl rfl rfl ?_
  refine call (i := 272) (i2 := 154) (Wd := 0) (pc' := 4) (kSuper (i := 271) (i2 := 267) (i3 := 177) (i4 := 272) (i5 := 169) (a := sb) (argsL := []) (S' := []) (Wd := 0) d_jdk_67_method_93_1 rfl rfl rfl rfl rfl rfl (by decide) (Ins.self Es) (by decide) rfl pd_5 rfl rfl (Nat.le_of_ble_eq_true rfl)) (rm_aln l Z a0 hw hEL n0 sb n _ Fn) rfl rfl (by simp) (by decide) (by decide) (by decide) (by decide) rfl fun v_ h113 P114 sz115 => ?_
  obtain ⟨rfl, e116⟩ := P114
  rw [e116]
  refine at' (ce' := 0) (sl' := 0) (pc' := 4) (L' := #[.val (.ref sb)]) (S' := [(.int n)]) rfl rfl rfl rfl rfl ?_
  exact retI d_jdk_67_method_93_4 rfl (Or.inl rfl) rfl (by decide) (by decide) ⟨rfl, rfl⟩
set_option maxRecDepth 65536 in
set_option maxHeartbeats 40000000 in
theorem rm_corE (l : Launch) (Z : State) (a0 : Array Value) (hw : ∀ d ∈ tables_1, d.before a0 Z = true) (hEL : EW Z a0 consts_1) (n0 : Nat) (b : Addr) (kb : ClassId) (vs : List Value) (dv : Value) (h : Heap) (Ab : Arv Z h b kb .byte (4 : Int32) vs dv) (Eb : Exa Z h b "[B")  :
    Met l false Z consts_1 n0 (⟨"java/util/Arrays", "copyOfRange", "([BII)[B"⟩ : MethodName) jdk_65_method_132_code 3 (some (.array .byte)) ({ frames := 1, cells := 1, slots := 4, locals := 20 } : Room) [] #[(.ref b), (.int (0 : Int32)), (.int (4 : Int32))] [] h (fun v h' => ∃ r : Addr, v = some (.ref r) ∧ Ext h h' ∧ Arv Z h' r kb .byte (4 : Int32) vs dv) := by
  refine Met.of_body (a0 := a0) (L0 := #[.val (.ref b), .val (.int (0 : Int32)), .val (.int (4 : Int32))]) (plainFor_of_name (by first | (simp [plainName, overriddenIn]; done) | decide +kernel)) (fun m => by first | rfl | (simp [entryFrame, mkF, argsToLocals, Value.category]; done)) hw hEL (by decide) ?_
  refine iloadN (pc' := 1) d_jdk_65_method_132_0 rfl rfl ?_
  refine ifF (pc' := 4) d_jdk_65_method_132_1 (rfl : (0 : Int32) = (0 : Int32)) rfl ?_
  refine iloadN (pc' := 5) d_jdk_65_method_132_4 rfl rfl ?_
  refine aloadN (pc' := 6) d_jdk_65_method_132_5 rfl rfl rfl ?_
  refine arraylength (pc' := 7) d_jdk_65_method_132_6 Ab rfl ?_
  refine icmpT (pc' := 17) d_jdk_65_method_132_7 (rfl : (4 : Int32) = (4 : Int32)) (by decide) rfl ?_
  refine aloadN (pc' := 18) d_jdk_65_method_132_17 rfl rfl rfl ?_
  refine cloneArr (i1 := 275) (i2 := 276) (i3 := 280) (i4 := 278) (i5 := 279) (i6 := 281) (Wd := 0) (cap := 4) (pc' := 21) d_jdk_65_method_132_18 rfl rfl rfl rfl rfl rfl Ab Eb rfl (by decide) (by decide) (by decide) (by decide) (by decide) (by decide) rfl fun hq q gq Eq Aq Ea => ?_
  refine checkcast (i := 282) (pc' := 24) d_jdk_65_method_132_21 rfl (Ins.self Ea) rfl ?_
  exact retA d_jdk_65_method_132_24 rfl rfl rfl (by decide) (by decide) ⟨q, rfl, Eq, Aq⟩
set_option maxRecDepth 65536 in
set_option maxHeartbeats 40000000 in
theorem rm_si2 (l : Launch) (Z : State) (a0 : Array Value) (hw : ∀ d ∈ tables_1, d.before a0 Z = true) (hEL : EW Z a0 consts_1) (n0 : Nat) (x sb b : Addr) (h : Heap) (Ex : Exa Z h x "java/lang/String") (Fv' : Fld Z h x "java/lang/String" "value" "[B" .null) (Fc' : Fld Z h x "java/lang/String" "coder" "B" (.int (0 : Int32))) (hB : Sets Z) (Hs : SBd Z h sb b 4) :
    Met l false Z consts_1 n0 (⟨"java/lang/String", "<init>", "(Ljava/lang/AbstractStringBuilder;Ljava/lang/Void;)V"⟩ : MethodName) jdk_42_method_150_code 5 none ({ frames := 2, cells := 1, slots := 4, locals := 50 } : Room) [] #[(.ref x), (.ref sb), .null] [x] h (fun v h' => v = none ∧ Keep h h' [x] ∧ ∃ ds : List Int32, ds.length = 4 ∧ Str Z h' x ds) := by
  refine Met.of_body (a0 := a0) (L0 := #[.val (.ref x), .val (.ref sb), .val .null, .unset, .unset]) (plainFor_of_name (by first | (simp [plainName, overriddenIn]; done) | decide +kernel)) (fun m => by first | rfl | (simp [entryFrame, mkF, argsToLocals, Value.category]; done)) hw hEL (by decide) ?_
  have K : Keep h h [x] := Keep.refl _ _
  obtain ⟨Es, Fv, Fc, Fn, Bb⟩ := Hs
  obtain ⟨kb, cs, hl, hp, Ab, Eb⟩ := Bb
  have ne_sb_b : sb ≠ b := Es.neArv Ab (hw _ (List.mem_of_getElem? (i := 144) rfl))
  refine aloadN (pc' := 1) d_jdk_42_method_150_0 rfl rfl rfl ?_
  refine initObj (i := 11) (i2 := 12) (i3 := 13) (Wd := 0) (pc' := 4) d_jdk_42_method_150_1 rfl rfl rfl rfl (by decide) (Nat.le_of_ble_eq_true rfl) (by decide) rfl ?_
  refine aloadN (pc' := 5) d_jdk_42_method_150_4 rfl rfl rfl ?_
  refine call (i := 264) (i2 := 154) (Wd := 0) (pc' := 8) (kVirt (i := 260) (i2 := 261) (i3 := 263) (i4 := 262) (C := "java/lang/StringBuilder") (a := sb) (argsL := []) (S' := []) (Wd := 0) d_jdk_42_method_150_5 rfl rfl rfl rfl Es (by decide) rfl pd_12 rfl rfl (Nat.le_of_ble_eq_true rfl)) (rm_gv l Z a0 hw hEL n0 sb b _ Fv) rfl rfl (by simp) (by decide) (by decide) (by decide) (by decide) rfl fun v_ h117 P118 sz119 => ?_
  obtain ⟨rfl, e120⟩ := P118
  rw [e120]
  refine at' (ce' := 0) (sl' := 0) (pc' := 8) (L' := #[.val (.ref x), .val (.ref sb), .val .null, .unset, .unset]) (S' := [(.ref b)]) rfl rfl rfl rfl rfl ?_
  refine astoreN (pc' := 9) (L' := #[.val (.ref x), .val (.ref sb), .val .null, .val (.ref b), .unset]) d_jdk_42_method_150_8 rfl rfl rfl ?_
  refine aloadN (pc' := 10) d_jdk_42_method_150_9 rfl rfl rfl ?_
  refine call (i := 270) (i2 := 145) (Wd := 0) (pc' := 13) (kVirt2 (i := 265) (i2 := 266) (i3 := 268) (i4 := 269) (i5 := 177) (C := "java/lang/StringBuilder") (a := sb) (argsL := []) (S' := []) (Wd := 0) d_jdk_42_method_150_10 rfl rfl rfl rfl rfl rfl Es (by decide) rfl pd_5 rfl rfl (Nat.le_of_ble_eq_true rfl)) (rm_sln l Z a0 hw hEL n0 sb (4 : Int32) _ Es Fn) rfl rfl (by simp) (by decide) (by decide) (by decide) (by decide) rfl fun v_ h121 P122 sz123 => ?_
  obtain ⟨rfl, e124⟩ := P122
  rw [e124]
  refine at' (ce' := 0) (sl' := 0) (pc' := 13) (L' := #[.val (.ref x), .val (.ref sb), .val .null, .val (.ref b), .unset]) (S' := [(.int (4 : Int32))]) rfl rfl rfl rfl rfl ?_
  refine istore (pc' := 15) (L' := #[.val (.ref x), .val (.ref sb), .val .null, .val (.ref b), .val (.int (4 : Int32))]) d_jdk_42_method_150_13 rfl rfl ?_
  refine aloadN (pc' := 16) d_jdk_42_method_150_15 rfl rfl rfl ?_
  refine call (i := 183) (i2 := 154) (Wd := 0) (pc' := 19) (kVirt (i := 273) (i2 := 180) (i3 := 182) (i4 := 181) (C := "java/lang/StringBuilder") (a := sb) (argsL := []) (S' := []) (Wd := 0) d_jdk_42_method_150_16 rfl rfl rfl rfl Es (by decide) rfl pd_7 rfl rfl (Nat.le_of_ble_eq_true rfl)) (rm_isA l Z a0 hw hEL n0 sb _ Fc hB) rfl rfl (by simp) (by decide) (by decide) (by decide) (by decide) rfl fun v_ h125 P126 sz127 => ?_
  obtain ⟨rfl, e128⟩ := P126
  rw [e128]
  refine at' (ce' := 0) (sl' := 0) (pc' := 19) (L' := #[.val (.ref x), .val (.ref sb), .val .null, .val (.ref b), .val (.int (4 : Int32))]) (S' := [(.int (1 : Int32))]) rfl rfl rfl rfl rfl ?_
  refine ifF (pc' := 22) d_jdk_42_method_150_19 (by decide : ¬ ((1 : Int32) = (0 : Int32))) rfl ?_
  have ne_x_b : x ≠ b := Ex.neArv Ab (hw _ (List.mem_of_getElem? (i := 2) rfl))
  refine aloadN (pc' := 23) d_jdk_42_method_150_22 rfl rfl rfl ?_
  refine iconst (pc' := 24) (v := (0 : Int32)) d_jdk_42_method_150_23 rfl rfl ?_
  refine putfield (i := 26) (i2 := 27) (i3 := 2) (pc' := 27) (v' := (.int (0 : Int32))) (ty := .byte) d_jdk_42_method_150_24 rfl (Or.inr ⟨rfl, rfl, rfl⟩) rfl Fc' Ex (by decide) (by decide) (by decide) (by simp) rfl fun h129 W130 => ?_
  replace K := K.wr W130 (Or.inl (by simp))
  replace Ex := Ex.wr W130
  replace Fv' := Fv'.other W130 (Or.inr (slot_ne (Or.inr (hw _ (List.mem_of_getElem? (i := 29) rfl))) (Or.inr (hw _ (List.mem_of_getElem? (i := 27) rfl))) (by decide) (t := (.array .byte)) (t' := .byte) (by decide) (by decide)))
  replace Fc' := Fc'.same W130
  replace Ab := Ab.other W130 (Ne.symm ne_x_b)
  replace Eb := Eb.wr W130
  refine aloadN (pc' := 28) d_jdk_42_method_150_27 rfl rfl rfl ?_
  refine aloadN (pc' := 29) d_jdk_42_method_150_28 rfl rfl rfl ?_
  refine iconst (pc' := 30) (v := (0 : Int32)) d_jdk_42_method_150_29 rfl rfl ?_
  refine iload (pc' := 32) d_jdk_42_method_150_30 rfl rfl ?_
  refine call (i := 105) (i2 := 104) (Wd := 1) (pc' := 35) (kStatic (i := 274) (i2 := 103) (i3 := 104) (i4 := 105) (argsL := [(.ref b), (.int (0 : Int32)), (.int (4 : Int32))]) (S' := [(.ref x)]) (Wd := 1) d_jdk_42_method_150_32 rfl rfl rfl rfl (by decide) rfl pd_3 rfl rfl (Nat.le_of_ble_eq_true rfl)) (rm_corE l Z a0 hw hEL n0 b kb (lat cs) (.int 0) _ Ab Eb) rfl rfl (by simp) (by decide) (by decide) (by decide) (by decide) rfl fun v_ h131 P132 sz133 => ?_
  obtain ⟨r, rfl, X1, A1⟩ := P132
  replace K := K.ext X1
  replace Ex := Ex.ext X1
  replace Fv' := Fv'.ext X1
  replace Fc' := Fc'.ext X1
  replace Ab := Ab.ext X1
  replace Eb := Eb.ext X1
  have ne_x_r : x ≠ r := Ex.neArv A1 (hw _ (List.mem_of_getElem? (i := 2) rfl))
  refine at' (ce' := 1) (sl' := 4) (pc' := 35) (L' := #[.val (.ref x), .val (.ref sb), .val .null, .val (.ref b), .val (.int (4 : Int32))]) (S' := [(.ref r), (.ref x)]) rfl rfl rfl rfl rfl ?_
  refine putfield (i := 28) (i2 := 29) (i3 := 2) (pc' := 38) (v' := (.ref r)) (ty := (.array .byte)) d_jdk_42_method_150_35 rfl (Or.inr ⟨rfl, rfl, rfl⟩) rfl Fv' Ex (by decide) rfl rfl (by simp) rfl fun h134 W135 => ?_
  replace K := K.wr W135 (Or.inl (by simp))
  replace Ex := Ex.wr W135
  replace Fv' := Fv'.same W135
  replace Fc' := Fc'.other W135 (Or.inr (slot_ne (Or.inr (hw _ (List.mem_of_getElem? (i := 27) rfl))) (Or.inr (hw _ (List.mem_of_getElem? (i := 29) rfl))) (by decide) (t := .byte) (t' := (.array .byte)) (by decide) (by decide)))
  replace Ab := Ab.other W135 (Ne.symm ne_x_b)
  replace Eb := Eb.wr W135
  replace A1 := A1.other W135 (Ne.symm ne_x_r)
  refine goto (pc' := 97) d_jdk_42_method_150_38 (by decide) rfl ?_
  exact retV d_jdk_42_method_150_97 rfl (by decide) (by decide) ⟨rfl, K, cs, hl, Ex, Fc', ⟨r, kb, Fv', by rw [hl]; exact A1⟩, hp, by rw [hl]; decide⟩
set_option maxRecDepth 65536 in
set_option maxHeartbeats 40000000 in
theorem rm_si (l : Launch) (Z : State) (a0 : Array Value) (hw : ∀ d ∈ tables_1, d.before a0 Z = true) (hEL : EW Z a0 consts_1) (n0 : Nat) (x sb b : Addr) (h : Heap) (Ex : Exa Z h x "java/lang/String") (Fv' : Fld Z h x "java/lang/String" "value" "[B" .null) (Fc' : Fld Z h x "java/lang/String" "coder" "B" (.int (0 : Int32))) (hB : Sets Z) (Hs : SBd Z h sb b 4) :
    Met l false Z consts_1 n0 (⟨"java/lang/String", "<init>", "(Ljava/lang/StringBuilder;)V"⟩ : MethodName) jdk_42_method_53_code 2 none ({ frames := 3, cells := 1, slots := 4, locals := 70 } : Room) [] #[(.ref x), (.ref sb)] [x] h (fun v h' => v = none ∧ Keep h h' [x] ∧ ∃ ds : List Int32, ds.length = 4 ∧ Str Z h' x ds) := by
  refine Met.of_body (a0 := a0) (L0 := #[.val (.ref x), .val (.ref sb)]) (plainFor_of_name (by first | (simp [plainName, overriddenIn]; done) | decide +kernel)) (fun m => by first | rfl | (simp [entryFrame, mkF, argsToLocals, Value.category]; done)) hw hEL (by decide) ?_
  refine aloadN (pc' := 1) d_jdk_42_method_53_0 rfl rfl rfl ?_
  refine aloadN (pc' := 2) d_jdk_42_method_53_1 rfl rfl rfl ?_
  refine aconst_null (pc' := 3) d_jdk_42_method_53_2 rfl ?_
  refine call (i := 259) (i2 := 3) (Wd := 0) (pc' := 6) (kInit (i := 257) (i2 := 258) (i4 := 259) (a := x) (argsL := [(.ref sb), .null]) (S' := []) (Wd := 0) d_jdk_42_method_53_3 rfl rfl rfl rfl (by decide) rfl pd_15 rfl rfl (Nat.le_of_ble_eq_true rfl)) (rm_si2 l Z a0 hw hEL n0 x sb b _ Ex Fv' Fc' hB Hs) rfl rfl (by simp) (by decide) (by decide) (by decide) (by decide) rfl fun v_ h136 P137 sz138 => ?_
  obtain ⟨rfl, K2, ds, hd, S2⟩ := P137
  refine at' (ce' := 1) (sl' := 4) (pc' := 6) (L' := #[.val (.ref x), .val (.ref sb)]) (S' := []) rfl rfl rfl rfl rfl ?_
  exact retV d_jdk_42_method_53_6 rfl (by decide) (by decide) ⟨rfl, K2, ds, hd, S2⟩
set_option maxRecDepth 65536 in
set_option maxHeartbeats 40000000 in
theorem rm_ts (l : Launch) (Z : State) (a0 : Array Value) (hw : ∀ d ∈ tables_1, d.before a0 Z = true) (hEL : EW Z a0 consts_1) (n0 : Nat) (sb b : Addr) (h : Heap)  (hB : Sets Z) (Hs : SBd Z h sb b 4) :
    Met l false Z consts_1 n0 (⟨"java/lang/StringBuilder", "toString", "()Ljava/lang/String;"⟩ : MethodName) jdk_67_method_42_code 1 (some (.object "java/lang/String")) ({ frames := 4, cells := 2, slots := 8, locals := 90 } : Room) [] #[(.ref sb)] [] h (fun v h' => ∃ (r : Addr) (ds : List Int32), v = some (.ref r) ∧ Ext h h' ∧ Str Z h' r ds ∧ ds.length = 4) := by
  refine Met.of_body (a0 := a0) (L0 := #[.val (.ref sb)]) (plainFor_of_name (by first | (simp [plainName, overriddenIn]; done) | decide +kernel)) (fun m => by first | rfl | (simp [entryFrame, mkF, argsToLocals, Value.category]; done)) hw hEL (by decide) ?_
  have K : Keep h h [] := Keep.refl _ _
  obtain ⟨Es, Fv, Fc, Fn, Bb⟩ := Hs
  obtain ⟨kb, cs, hl, hp, Ab, Eb⟩ := Bb
  refine new (i := 253) (i2 := 2) (i3 := 3) (pc' := 3) d_jdk_67_method_42_0 rfl rfl rfl (by decide) (by decide) rfl fun h139 a140 g141 E142 A143 D144 => ?_
  have sz_a140 : h.size ≤ a140 := by rw [g141]; exact K.1
  have ne_sb_a140 : sb ≠ a140 := Nat.ne_of_lt (by rw [g141]; exact Es.lt)
  have ne_b_a140 : b ≠ a140 := Nat.ne_of_lt (by rw [g141]; exact Ab.lt)
  replace K := K.ext E142
  replace Es := Es.ext E142
  replace Fv := Fv.ext E142
  replace Fc := Fc.ext E142
  replace Fn := Fn.ext E142
  replace Ab := Ab.ext E142
  replace Eb := Eb.ext E142
  have F_coder_a140 : Fld Z h139 a140 "java/lang/String" "coder" "B" (.int (0 : Int32)) := D144 (Or.inr (hw _ (List.mem_of_getElem? (i := 27) rfl))) (ty := .byte) (by decide)
  have F_value_a140 : Fld Z h139 a140 "java/lang/String" "value" "[B" .null := D144 (Or.inr (hw _ (List.mem_of_getElem? (i := 29) rfl))) (ty := (.array .byte)) (by decide)
  refine dup (pc' := 4) d_jdk_67_method_42_3 rfl rfl ?_
  refine aloadN (pc' := 5) d_jdk_67_method_42_4 rfl rfl rfl ?_
  refine call (i := 256) (i2 := 3) (Wd := 1) (pc' := 8) (kInit (i := 254) (i2 := 255) (i4 := 256) (a := a140) (argsL := [(.ref sb)]) (S' := [(.ref a140)]) (Wd := 1) d_jdk_67_method_42_5 rfl rfl rfl rfl (by decide) rfl pd_16 rfl rfl (Nat.le_of_ble_eq_true rfl)) (rm_si l Z a0 hw hEL n0 a140 sb b _ A143 F_value_a140 F_coder_a140 hB ⟨Es, Fv, Fc, Fn, ⟨kb, cs, hl, hp, Ab, Eb⟩⟩) rfl rfl (by simp) (by decide) (by decide) (by decide) (by decide) rfl fun v_ h145 P146 sz147 => ?_
  obtain ⟨rfl, K2, ds, hd, S2⟩ := P146
  replace K := K.trans K2 (allS (Or.inr sz_a140) all0)
  refine at' (ce' := 2) (sl' := 8) (pc' := 8) (L' := #[.val (.ref sb)]) (S' := [(.ref a140)]) rfl rfl rfl rfl rfl ?_
  exact retA d_jdk_67_method_42_8 rfl rfl rfl (by decide) (by decide) ⟨a140, ds, rfl, keepExt K, S2, hd⟩
set_option maxRecDepth 65536 in
set_option maxHeartbeats 40000000 in
theorem rm_ps (l : Launch) (Z : State) (a0 : Array Value) (hw : ∀ d ∈ tables_1, d.before a0 Z = true) (hEL : EW Z a0 consts_1) (n0 : Nat) (a x : Addr) (f : Int32) (h : Heap) (Ea : Exa Z h a "gatelayer/PathSegments") (Fb : Fld Z h a "gatelayer/PathSegments" "bounds" "[I" .null) (Fx : Fld Z h a "gatelayer/PathSegments" "text" "Ljava/lang/String;" .null) (Ff : Fld Z h a "gatelayer/PathSegments" "from" "I" (.int (0 : Int32))) (Ft : Fld Z h a "gatelayer/PathSegments" "to" "I" (.int (0 : Int32))) (Fd : Fld Z h a "gatelayer/PathSegments" "dropped" "I" (.int (0 : Int32))) (Fn : Fld Z h a "gatelayer/PathSegments" "count" "I" (.int (0 : Int32)))  :
    Met l false Z consts_1 n0 (⟨"gatelayer/PathSegments", "<init>", "(Ljava/lang/String;I)V"⟩ : MethodName) prog_8_method_1_code 3 none ({ frames := 1, cells := 1, slots := 16, locals := 30 } : Room) [] #[(.ref a), (.ref x), (.int f)] [a] h (fun v h' => ∃ (bd : Addr) (kbd : ClassId), v = none ∧ Keep h h' [a] ∧ h.size ≤ bd ∧ PSd Z h' a bd x kbd f f 0 0 [(.int (0 : Int32)), (.int (0 : Int32)), (.int (0 : Int32)), (.int (0 : Int32)), (.int (0 : Int32)), (.int (0 : Int32)), (.int (0 : Int32)), (.int (0 : Int32)), (.int (0 : Int32)), (.int (0 : Int32)), (.int (0 : Int32)), (.int (0 : Int32)), (.int (0 : Int32)), (.int (0 : Int32)), (.int (0 : Int32)), (.int (0 : Int32))]) := by
  refine Met.of_body (a0 := a0) (L0 := #[.val (.ref a), .val (.ref x), .val (.int f)]) (plainFor_of_name (by first | (simp [plainName, overriddenIn]; done) | decide +kernel)) (fun m => by first | rfl | (simp [entryFrame, mkF, argsToLocals, Value.category]; done)) hw hEL (by decide) ?_
  have K : Keep h h [a] := Keep.refl _ _
  refine aloadN (pc' := 1) d_prog_8_method_1_0 rfl rfl rfl ?_
  refine initObj (i := 37) (i2 := 12) (i3 := 13) (Wd := 0) (pc' := 4) d_prog_8_method_1_1 rfl rfl rfl rfl (by decide) (Nat.le_of_ble_eq_true rfl) (by decide) rfl ?_
  refine aloadN (pc' := 5) d_prog_8_method_1_4 rfl rfl rfl ?_
  refine bipush (pc' := 7) (v := (16 : Int32)) d_prog_8_method_1_5 rfl rfl ?_
  refine newarray (i := 38) (cap := 16) (ty := .int) (pc' := 9) d_prog_8_method_1_7 rfl rfl (by decide) (by decide) (by decide) (by decide) (by decide) rfl fun h148 a149 kc153 g150 E151 V152 => ?_
  have sz_a149 : h.size ≤ a149 := by rw [g150]; exact K.1
  have ne_a_a149 : a ≠ a149 := Nat.ne_of_lt (by rw [g150]; exact Ea.lt)
  replace K := K.ext E151
  replace Ea := Ea.ext E151
  replace Fb := Fb.ext E151
  replace Fx := Fx.ext E151
  replace Ff := Ff.ext E151
  replace Ft := Ft.ext E151
  replace Fd := Fd.ext E151
  replace Fn := Fn.ext E151
  replace V152 : Arv Z h148 a149 kc153 .int (16 : Int32) [(.int (0 : Int32)), (.int (0 : Int32)), (.int (0 : Int32)), (.int (0 : Int32)), (.int (0 : Int32)), (.int (0 : Int32)), (.int (0 : Int32)), (.int (0 : Int32)), (.int (0 : Int32)), (.int (0 : Int32)), (.int (0 : Int32)), (.int (0 : Int32)), (.int (0 : Int32)), (.int (0 : Int32)), (.int (0 : Int32)), (.int (0 : Int32))] (.int (0 : Int32)) := V152.pad (pad_rep [] (.int (0 : Int32)) 16)
  refine putfield (i := 39) (i2 := 40) (i3 := 32) (pc' := 12) (v' := (.ref a149)) (ty := (.array .int)) d_prog_8_method_1_9 rfl (Or.inl rfl) rfl Fb Ea (by decide) rfl rfl (by simp) rfl fun h154 W155 => ?_
  replace K := K.wr W155 (Or.inl (by simp))
  replace Ea := Ea.wr W155
  replace Fb := Fb.same W155
  replace Fx := Fx.other W155 (Or.inr (slot_ne (Or.inr (hw _ (List.mem_of_getElem? (i := 42) rfl))) (Or.inl (hw _ (List.mem_of_getElem? (i := 40) rfl))) (by decide) (t := (.object "java/lang/String")) (t' := (.array .int)) (by decide) (by decide)))
  replace Ff := Ff.other W155 (Or.inr (slot_ne (Or.inr (hw _ (List.mem_of_getElem? (i := 44) rfl))) (Or.inl (hw _ (List.mem_of_getElem? (i := 40) rfl))) (by decide) (t := .int) (t' := (.array .int)) (by decide) (by decide)))
  replace Ft := Ft.other W155 (Or.inr (slot_ne (Or.inl (hw _ (List.mem_of_getElem? (i := 46) rfl))) (Or.inl (hw _ (List.mem_of_getElem? (i := 40) rfl))) (by decide) (t := .int) (t' := (.array .int)) (by decide) (by decide)))
  replace Fd := Fd.other W155 (Or.inr (slot_ne (Or.inl (hw _ (List.mem_of_getElem? (i := 58) rfl))) (Or.inl (hw _ (List.mem_of_getElem? (i := 40) rfl))) (by decide) (t := .int) (t' := (.array .int)) (by decide) (by decide)))
  replace Fn := Fn.other W155 (Or.inr (slot_ne (Or.inl (hw _ (List.mem_of_getElem? (i := 137) rfl))) (Or.inl (hw _ (List.mem_of_getElem? (i := 40) rfl))) (by decide) (t := .int) (t' := (.array .int)) (by decide) (by decide)))
  replace V152 := V152.other W155 (Ne.symm ne_a_a149)
  refine aloadN (pc' := 13) d_prog_8_method_1_12 rfl rfl rfl ?_
  refine aloadN (pc' := 14) d_prog_8_method_1_13 rfl rfl rfl ?_
  refine putfield (i := 41) (i2 := 42) (i3 := 32) (pc' := 17) (v' := (.ref x)) (ty := (.object "java/lang/String")) d_prog_8_method_1_14 rfl (Or.inr ⟨rfl, rfl, rfl⟩) rfl Fx Ea (by decide) rfl rfl (by simp) rfl fun h156 W157 => ?_
  replace K := K.wr W157 (Or.inl (by simp))
  replace Ea := Ea.wr W157
  replace Fb := Fb.other W157 (Or.inr (slot_ne (Or.inl (hw _ (List.mem_of_getElem? (i := 40) rfl))) (Or.inr (hw _ (List.mem_of_getElem? (i := 42) rfl))) (by decide) (t := (.array .int)) (t' := (.object "java/lang/String")) (by decide) (by decide)))
  replace Fx := Fx.same W157
  replace Ff := Ff.other W157 (Or.inr (slot_ne (Or.inr (hw _ (List.mem_of_getElem? (i := 44) rfl))) (Or.inr (hw _ (List.mem_of_getElem? (i := 42) rfl))) (by decide) (t := .int) (t' := (.object "java/lang/String")) (by decide) (by decide)))
  replace Ft := Ft.other W157 (Or.inr (slot_ne (Or.inl (hw _ (List.mem_of_getElem? (i := 46) rfl))) (Or.inr (hw _ (List.mem_of_getElem? (i := 42) rfl))) (by decide) (t := .int) (t' := (.object "java/lang/String")) (by decide) (by decide)))
  replace Fd := Fd.other W157 (Or.inr (slot_ne (Or.inl (hw _ (List.mem_of_getElem? (i := 58) rfl))) (Or.inr (hw _ (List.mem_of_getElem? (i := 42) rfl))) (by decide) (t := .int) (t' := (.object "java/lang/String")) (by decide) (by decide)))
  replace Fn := Fn.other W157 (Or.inr (slot_ne (Or.inl (hw _ (List.mem_of_getElem? (i := 137) rfl))) (Or.inr (hw _ (List.mem_of_getElem? (i := 42) rfl))) (by decide) (t := .int) (t' := (.object "java/lang/String")) (by decide) (by decide)))
  replace V152 := V152.other W157 (Ne.symm ne_a_a149)
  refine aloadN (pc' := 18) d_prog_8_method_1_17 rfl rfl rfl ?_
  refine iloadN (pc' := 19) d_prog_8_method_1_18 rfl rfl ?_
  refine putfield (i := 43) (i2 := 44) (i3 := 32) (pc' := 22) (v' := (.int f)) (ty := .int) d_prog_8_method_1_19 rfl (Or.inr ⟨rfl, rfl, rfl⟩) rfl Ff Ea (by decide) rfl rfl (by simp) rfl fun h158 W159 => ?_
  replace K := K.wr W159 (Or.inl (by simp))
  replace Ea := Ea.wr W159
  replace Fb := Fb.other W159 (Or.inr (slot_ne (Or.inl (hw _ (List.mem_of_getElem? (i := 40) rfl))) (Or.inr (hw _ (List.mem_of_getElem? (i := 44) rfl))) (by decide) (t := (.array .int)) (t' := .int) (by decide) (by decide)))
  replace Fx := Fx.other W159 (Or.inr (slot_ne (Or.inr (hw _ (List.mem_of_getElem? (i := 42) rfl))) (Or.inr (hw _ (List.mem_of_getElem? (i := 44) rfl))) (by decide) (t := (.object "java/lang/String")) (t' := .int) (by decide) (by decide)))
  replace Ff := Ff.same W159
  replace Ft := Ft.other W159 (Or.inr (slot_ne (Or.inl (hw _ (List.mem_of_getElem? (i := 46) rfl))) (Or.inr (hw _ (List.mem_of_getElem? (i := 44) rfl))) (by decide) (t := .int) (t' := .int) (by decide) (by decide)))
  replace Fd := Fd.other W159 (Or.inr (slot_ne (Or.inl (hw _ (List.mem_of_getElem? (i := 58) rfl))) (Or.inr (hw _ (List.mem_of_getElem? (i := 44) rfl))) (by decide) (t := .int) (t' := .int) (by decide) (by decide)))
  replace Fn := Fn.other W159 (Or.inr (slot_ne (Or.inl (hw _ (List.mem_of_getElem? (i := 137) rfl))) (Or.inr (hw _ (List.mem_of_getElem? (i := 44) rfl))) (by decide) (t := .int) (t' := .int) (by decide) (by decide)))
  replace V152 := V152.other W159 (Ne.symm ne_a_a149)
  refine aloadN (pc' := 23) d_prog_8_method_1_22 rfl rfl rfl ?_
  refine iloadN (pc' := 24) d_prog_8_method_1_23 rfl rfl ?_
  refine putfield (i := 45) (i2 := 46) (i3 := 32) (pc' := 27) (v' := (.int f)) (ty := .int) d_prog_8_method_1_24 rfl (Or.inl rfl) rfl Ft Ea (by decide) rfl rfl (by simp) rfl fun h160 W161 => ?_
  replace K := K.wr W161 (Or.inl (by simp))
  replace Ea := Ea.wr W161
  replace Fb := Fb.other W161 (Or.inr (slot_ne (Or.inl (hw _ (List.mem_of_getElem? (i := 40) rfl))) (Or.inl (hw _ (List.mem_of_getElem? (i := 46) rfl))) (by decide) (t := (.array .int)) (t' := .int) (by decide) (by decide)))
  replace Fx := Fx.other W161 (Or.inr (slot_ne (Or.inr (hw _ (List.mem_of_getElem? (i := 42) rfl))) (Or.inl (hw _ (List.mem_of_getElem? (i := 46) rfl))) (by decide) (t := (.object "java/lang/String")) (t' := .int) (by decide) (by decide)))
  replace Ff := Ff.other W161 (Or.inr (slot_ne (Or.inr (hw _ (List.mem_of_getElem? (i := 44) rfl))) (Or.inl (hw _ (List.mem_of_getElem? (i := 46) rfl))) (by decide) (t := .int) (t' := .int) (by decide) (by decide)))
  replace Ft := Ft.same W161
  replace Fd := Fd.other W161 (Or.inr (slot_ne (Or.inl (hw _ (List.mem_of_getElem? (i := 58) rfl))) (Or.inl (hw _ (List.mem_of_getElem? (i := 46) rfl))) (by decide) (t := .int) (t' := .int) (by decide) (by decide)))
  replace Fn := Fn.other W161 (Or.inr (slot_ne (Or.inl (hw _ (List.mem_of_getElem? (i := 137) rfl))) (Or.inl (hw _ (List.mem_of_getElem? (i := 46) rfl))) (by decide) (t := .int) (t' := .int) (by decide) (by decide)))
  replace V152 := V152.other W161 (Ne.symm ne_a_a149)
  exact retV d_prog_8_method_1_27 rfl (by decide) (by decide) ⟨a149, kc153, rfl, K, sz_a149, Ea, Fb, Fx, Ff, Ft, Fd, Fn, V152⟩
set_option maxRecDepth 65536 in
set_option maxHeartbeats 40000000 in
theorem rm_ea2 (l : Launch) (Z : State) (a0 : Array Value) (hw : ∀ d ∈ tables_1, d.before a0 Z = true) (hEL : EW Z a0 consts_1) (n0 : Nat) (a bd x : Addr) (kbd : ClassId) (f t d n : Int32) (vs : List Value) (t' d' : Int32) (h : Heap)  (Hs : PSd Z h a bd x kbd f t d n vs) :
    Met l false Z consts_1 n0 (⟨"gatelayer/PathSegments", "endsAt", "(II)Lgatelayer/PathSegments;"⟩ : MethodName) prog_8_method_5_code 3 (some (.object "gatelayer/PathSegments")) ({ frames := 0, cells := 0, slots := 0, locals := 0 } : Room) [] #[(.ref a), (.int t'), (.int d')] [a] h (fun v h' => v = some (.ref a) ∧ Keep h h' [a] ∧ PSd Z h' a bd x kbd f t' d' n vs) := by
  refine Met.of_body (a0 := a0) (L0 := #[.val (.ref a), .val (.int t'), .val (.int d')]) (plainFor_of_name (by first | (simp [plainName, overriddenIn]; done) | decide +kernel)) (fun m => by first | rfl | (simp [entryFrame, mkF, argsToLocals, Value.category]; done)) hw hEL (by decide) ?_
  have K : Keep h h [a] := Keep.refl _ _
  obtain ⟨Ea, Fb, Fx, Ff, Ft, Fd, Fn, Abd⟩ := id Hs
  have ne_a_bd : a ≠ bd := Ea.neArv Abd (hw _ (List.mem_of_getElem? (i := 32) rfl))
  refine aloadN (pc' := 1) d_prog_8_method_5_0 rfl rfl rfl ?_
  refine iloadN (pc' := 2) d_prog_8_method_5_1 rfl rfl ?_
  refine putfield (i := 45) (i2 := 46) (i3 := 32) (pc' := 5) (v' := (.int t')) (ty := .int) d_prog_8_method_5_2 rfl (Or.inl rfl) rfl Ft Ea (by decide) rfl rfl (by simp) rfl fun h162 W163 => ?_
  replace K := K.wr W163 (Or.inl (by simp))
  replace Ea := Ea.wr W163
  replace Fb := Fb.other W163 (Or.inr (slot_ne (Or.inl (hw _ (List.mem_of_getElem? (i := 40) rfl))) (Or.inl (hw _ (List.mem_of_getElem? (i := 46) rfl))) (by decide) (t := (.array .int)) (t' := .int) (by decide) (by decide)))
  replace Fx := Fx.other W163 (Or.inr (slot_ne (Or.inr (hw _ (List.mem_of_getElem? (i := 42) rfl))) (Or.inl (hw _ (List.mem_of_getElem? (i := 46) rfl))) (by decide) (t := (.object "java/lang/String")) (t' := .int) (by decide) (by decide)))
  replace Ff := Ff.other W163 (Or.inr (slot_ne (Or.inr (hw _ (List.mem_of_getElem? (i := 44) rfl))) (Or.inl (hw _ (List.mem_of_getElem? (i := 46) rfl))) (by decide) (t := .int) (t' := .int) (by decide) (by decide)))
  replace Ft := Ft.same W163
  replace Fd := Fd.other W163 (Or.inr (slot_ne (Or.inl (hw _ (List.mem_of_getElem? (i := 58) rfl))) (Or.inl (hw _ (List.mem_of_getElem? (i := 46) rfl))) (by decide) (t := .int) (t' := .int) (by decide) (by decide)))
  replace Fn := Fn.other W163 (Or.inr (slot_ne (Or.inl (hw _ (List.mem_of_getElem? (i := 137) rfl))) (Or.inl (hw _ (List.mem_of_getElem? (i := 46) rfl))) (by decide) (t := .int) (t' := .int) (by decide) (by decide)))
  replace Abd := Abd.other W163 (Ne.symm ne_a_bd)
  refine aloadN (pc' := 6) d_prog_8_method_5_5 rfl rfl rfl ?_
  refine iloadN (pc' := 7) d_prog_8_method_5_6 rfl rfl ?_
  refine putfield (i := 57) (i2 := 58) (i3 := 32) (pc' := 10) (v' := (.int d')) (ty := .int) d_prog_8_method_5_7 rfl (Or.inl rfl) rfl Fd Ea (by decide) rfl rfl (by simp) rfl fun h164 W165 => ?_
  replace K := K.wr W165 (Or.inl (by simp))
  replace Ea := Ea.wr W165
  replace Fb := Fb.other W165 (Or.inr (slot_ne (Or.inl (hw _ (List.mem_of_getElem? (i := 40) rfl))) (Or.inl (hw _ (List.mem_of_getElem? (i := 58) rfl))) (by decide) (t := (.array .int)) (t' := .int) (by decide) (by decide)))
  replace Fx := Fx.other W165 (Or.inr (slot_ne (Or.inr (hw _ (List.mem_of_getElem? (i := 42) rfl))) (Or.inl (hw _ (List.mem_of_getElem? (i := 58) rfl))) (by decide) (t := (.object "java/lang/String")) (t' := .int) (by decide) (by decide)))
  replace Ff := Ff.other W165 (Or.inr (slot_ne (Or.inr (hw _ (List.mem_of_getElem? (i := 44) rfl))) (Or.inl (hw _ (List.mem_of_getElem? (i := 58) rfl))) (by decide) (t := .int) (t' := .int) (by decide) (by decide)))
  replace Ft := Ft.other W165 (Or.inr (slot_ne (Or.inl (hw _ (List.mem_of_getElem? (i := 46) rfl))) (Or.inl (hw _ (List.mem_of_getElem? (i := 58) rfl))) (by decide) (t := .int) (t' := .int) (by decide) (by decide)))
  replace Fd := Fd.same W165
  replace Fn := Fn.other W165 (Or.inr (slot_ne (Or.inl (hw _ (List.mem_of_getElem? (i := 137) rfl))) (Or.inl (hw _ (List.mem_of_getElem? (i := 58) rfl))) (by decide) (t := .int) (t' := .int) (by decide) (by decide)))
  replace Abd := Abd.other W165 (Ne.symm ne_a_bd)
  refine aloadN (pc' := 11) d_prog_8_method_5_10 rfl rfl rfl ?_
  exact retA d_prog_8_method_5_11 rfl rfl rfl (by decide) (by decide) ⟨rfl, K, ⟨Ea, Fb, Fx, Ff, Ft, Fd, Fn, Abd⟩⟩
set_option maxRecDepth 65536 in
set_option maxHeartbeats 40000000 in
theorem rm_ea1 (l : Launch) (Z : State) (a0 : Array Value) (hw : ∀ d ∈ tables_1, d.before a0 Z = true) (hEL : EW Z a0 consts_1) (n0 : Nat) (a bd x : Addr) (kbd : ClassId) (f t d n : Int32) (vs : List Value) (t' : Int32) (h : Heap)  (Hs : PSd Z h a bd x kbd f t d n vs) :
    Met l false Z consts_1 n0 (⟨"gatelayer/PathSegments", "endsAt", "(I)Lgatelayer/PathSegments;"⟩ : MethodName) prog_8_method_4_code 2 (some (.object "gatelayer/PathSegments")) ({ frames := 1, cells := 0, slots := 0, locals := 20 } : Room) [] #[(.ref a), (.int t')] [a] h (fun v h' => v = some (.ref a) ∧ Keep h h' [a] ∧ PSd Z h' a bd x kbd f t' 0 n vs) := by
  refine Met.of_body (a0 := a0) (L0 := #[.val (.ref a), .val (.int t')]) (plainFor_of_name (by first | (simp [plainName, overriddenIn]; done) | decide +kernel)) (fun m => by first | rfl | (simp [entryFrame, mkF, argsToLocals, Value.category]; done)) hw hEL (by decide) ?_
  refine aloadN (pc' := 1) d_prog_8_method_4_0 rfl rfl rfl ?_
  refine iloadN (pc' := 2) d_prog_8_method_4_1 rfl rfl ?_
  refine iconst (pc' := 3) (v := (0 : Int32)) d_prog_8_method_4_2 rfl rfl ?_
  refine call (i := 56) (i2 := 33) (Wd := 0) (pc' := 6) (kVirt (i := 52) (i2 := 53) (i3 := 55) (i4 := 54) (C := "gatelayer/PathSegments") (a := a) (argsL := [(.int t'), (.int (0 : Int32))]) (S' := []) (Wd := 0) d_prog_8_method_4_3 rfl rfl rfl rfl (Hs.1) (by decide) rfl pd_17 rfl rfl (Nat.le_of_ble_eq_true rfl)) (rm_ea2 l Z a0 hw hEL n0 a bd x kbd f t d n vs t' (0 : Int32) _ Hs) rfl rfl (by simp) (by decide) (by decide) (by decide) (by decide) rfl fun v_ h166 P167 sz168 => ?_
  obtain ⟨rfl, K2, H2⟩ := P167
  refine at' (ce' := 0) (sl' := 0) (pc' := 6) (L' := #[.val (.ref a), .val (.int t')]) (S' := [(.ref a)]) rfl rfl rfl rfl rfl ?_
  exact retA d_prog_8_method_4_6 rfl rfl rfl (by decide) (by decide) ⟨rfl, K2, H2⟩
set_option maxRecDepth 65536 in
set_option maxHeartbeats 40000000 in
theorem rm_len (l : Launch) (Z : State) (a0 : Array Value) (hw : ∀ d ∈ tables_1, d.before a0 Z = true) (hEL : EW Z a0 consts_1) (n0 : Nat) (a bd x : Addr) (kbd : ClassId) (f t d n : Int32) (vs : List Value) (k : Int32) (h : Heap)  (Hs : PSd Z h a bd x kbd f t d n vs) (hk : t - f - d = k) :
    Met l false Z consts_1 n0 (⟨"gatelayer/PathSegments", "length", "()I"⟩ : MethodName) prog_8_method_8_code 1 (some .int) ({ frames := 0, cells := 0, slots := 0, locals := 0 } : Room) [] #[(.ref a)] [] h (fun v h' => v = some (.int k) ∧ h' = h) := by
  refine Met.of_body (a0 := a0) (L0 := #[.val (.ref a)]) (plainFor_of_name (by first | (simp [plainName, overriddenIn]; done) | decide +kernel)) (fun m => by first | rfl | (simp [entryFrame, mkF, argsToLocals, Value.category]; done)) hw hEL (by decide) ?_
  obtain ⟨Ea, Fb, Fx, Ff, Ft, Fd, Fn, Abd⟩ := id Hs
  have ne_a_bd : a ≠ bd := Ea.neArv Abd (hw _ (List.mem_of_getElem? (i := 32) rfl))
  refine aloadN (pc' := 1) d_prog_8_method_8_0 rfl rfl rfl ?_
  refine getfield (i := 45) (pc' := 4) d_prog_8_method_8_1 rfl Ft rfl ?_
  refine aloadN (pc' := 5) d_prog_8_method_8_4 rfl rfl rfl ?_
  refine getfield (i := 43) (pc' := 8) d_prog_8_method_8_5 rfl Ff rfl ?_
  refine isub (pc' := 9) d_prog_8_method_8_8 rfl ?_
  refine aloadN (pc' := 10) d_prog_8_method_8_9 rfl rfl rfl ?_
  refine getfield (i := 57) (pc' := 13) d_prog_8_method_8_10 rfl Fd rfl ?_
  refine isub (pc' := 14) d_prog_8_method_8_13 rfl ?_
  rw [hk]
  exact retI d_prog_8_method_8_14 rfl (Or.inl rfl) rfl (by decide) (by decide) ⟨rfl, rfl⟩
set_option maxRecDepth 65536 in
set_option maxHeartbeats 40000000 in
theorem rm_add0 (l : Launch) (Z : State) (a0 : Array Value) (hw : ∀ d ∈ tables_1, d.before a0 Z = true) (hEL : EW Z a0 consts_1) (n0 : Nat) (a bd x : Addr) (kbd : ClassId) (f t d s e : Int32) (h : Heap)  (Hs : PSd Z h a bd x kbd f t d 0 [(.int (0 : Int32)), (.int (0 : Int32)), (.int (0 : Int32)), (.int (0 : Int32)), (.int (0 : Int32)), (.int (0 : Int32)), (.int (0 : Int32)), (.int (0 : Int32)), (.int (0 : Int32)), (.int (0 : Int32)), (.int (0 : Int32)), (.int (0 : Int32)), (.int (0 : Int32)), (.int (0 : Int32)), (.int (0 : Int32)), (.int (0 : Int32))]) :
    Met l false Z consts_1 n0 (⟨"gatelayer/PathSegments", "add", "(II)V"⟩ : MethodName) prog_8_method_3_code 3 none ({ frames := 0, cells := 0, slots := 0, locals := 0 } : Room) [] #[(.ref a), (.int s), (.int e)] [a, bd] h (fun v h' => v = none ∧ Keep h h' [a, bd] ∧ PSd Z h' a bd x kbd f t d 1 [(.int s), (.int e), (.int (0 : Int32)), (.int (0 : Int32)), (.int (0 : Int32)), (.int (0 : Int32)), (.int (0 : Int32)), (.int (0 : Int32)), (.int (0 : Int32)), (.int (0 : Int32)), (.int (0 : Int32)), (.int (0 : Int32)), (.int (0 : Int32)), (.int (0 : Int32)), (.int (0 : Int32)), (.int (0 : Int32))]) := by
  refine Met.of_body (a0 := a0) (L0 := #[.val (.ref a), .val (.int s), .val (.int e)]) (plainFor_of_name (by first | (simp [plainName, overriddenIn]; done) | decide +kernel)) (fun m => by first | rfl | (simp [entryFrame, mkF, argsToLocals, Value.category]; done)) hw hEL (by decide) ?_
  have K : Keep h h [a, bd] := Keep.refl _ _
  obtain ⟨Ea, Fb, Fx, Ff, Ft, Fd, Fn, Abd⟩ := id Hs
  have ne_a_bd : a ≠ bd := Ea.neArv Abd (hw _ (List.mem_of_getElem? (i := 32) rfl))
  refine iconst (pc' := 1) (v := (2 : Int32)) d_prog_8_method_3_0 rfl rfl ?_
  refine aloadN (pc' := 2) d_prog_8_method_3_1 rfl rfl rfl ?_
  refine getfield (i := 136) (pc' := 5) d_prog_8_method_3_2 rfl Fn rfl ?_
  refine imul (pc' := 6) d_prog_8_method_3_5 rfl ?_
  rw [show ((2 : Int32) * (0 : Int32)) = (0 : Int32) from by decide]
  refine aloadN (pc' := 7) d_prog_8_method_3_6 rfl rfl rfl ?_
  refine getfield (i := 39) (pc' := 10) d_prog_8_method_3_7 rfl Fb rfl ?_
  refine arraylength (pc' := 11) d_prog_8_method_3_10 Abd rfl ?_
  refine icmpT (pc' := 32) d_prog_8_method_3_11 (by decide : ¬ ((0 : Int32) = (16 : Int32))) (by decide) rfl ?_
  refine aloadN (pc' := 33) d_prog_8_method_3_32 rfl rfl rfl ?_
  refine getfield (i := 39) (pc' := 36) d_prog_8_method_3_33 rfl Fb rfl ?_
  refine iconst (pc' := 37) (v := (2 : Int32)) d_prog_8_method_3_36 rfl rfl ?_
  refine aloadN (pc' := 38) d_prog_8_method_3_37 rfl rfl rfl ?_
  refine getfield (i := 136) (pc' := 41) d_prog_8_method_3_38 rfl Fn rfl ?_
  refine imul (pc' := 42) d_prog_8_method_3_41 rfl ?_
  rw [show ((2 : Int32) * (0 : Int32)) = (0 : Int32) from by decide]
  refine iloadN (pc' := 43) d_prog_8_method_3_42 rfl rfl ?_
  refine iastore (pc' := 44) d_prog_8_method_3_43 Abd ⟨by decide, by decide⟩ (by simp) (Nat.le_of_ble_eq_true rfl) rfl fun h169 W170 V171 => ?_
  replace K := K.wr W170 (Or.inl (by simp))
  replace Ea := Ea.wr W170
  replace Fb := Fb.other W170 (Or.inl ne_a_bd)
  replace Fx := Fx.other W170 (Or.inl ne_a_bd)
  replace Ff := Ff.other W170 (Or.inl ne_a_bd)
  replace Ft := Ft.other W170 (Or.inl ne_a_bd)
  replace Fd := Fd.other W170 (Or.inl ne_a_bd)
  replace Fn := Fn.other W170 (Or.inl ne_a_bd)
  replace Abd : Arv Z h169 bd kbd .int (16 : Int32) [(.int s), (.int (0 : Int32)), (.int (0 : Int32)), (.int (0 : Int32)), (.int (0 : Int32)), (.int (0 : Int32)), (.int (0 : Int32)), (.int (0 : Int32)), (.int (0 : Int32)), (.int (0 : Int32)), (.int (0 : Int32)), (.int (0 : Int32)), (.int (0 : Int32)), (.int (0 : Int32)), (.int (0 : Int32)), (.int (0 : Int32))] (.int (0 : Int32)) := V171
  refine aloadN (pc' := 45) d_prog_8_method_3_44 rfl rfl rfl ?_
  refine getfield (i := 39) (pc' := 48) d_prog_8_method_3_45 rfl Fb rfl ?_
  refine iconst (pc' := 49) (v := (2 : Int32)) d_prog_8_method_3_48 rfl rfl ?_
  refine aloadN (pc' := 50) d_prog_8_method_3_49 rfl rfl rfl ?_
  refine getfield (i := 136) (pc' := 53) d_prog_8_method_3_50 rfl Fn rfl ?_
  refine imul (pc' := 54) d_prog_8_method_3_53 rfl ?_
  rw [show ((2 : Int32) * (0 : Int32)) = (0 : Int32) from by decide]
  refine iconst (pc' := 55) (v := (1 : Int32)) d_prog_8_method_3_54 rfl rfl ?_
  refine iadd (pc' := 56) d_prog_8_method_3_55 rfl ?_
  rw [show ((0 : Int32) + (1 : Int32)) = (1 : Int32) from by decide]
  refine iloadN (pc' := 57) d_prog_8_method_3_56 rfl rfl ?_
  refine iastore (pc' := 58) d_prog_8_method_3_57 Abd ⟨by decide, by decide⟩ (by simp) (Nat.le_of_ble_eq_true rfl) rfl fun h172 W173 V174 => ?_
  replace K := K.wr W173 (Or.inl (by simp))
  replace Ea := Ea.wr W173
  replace Fb := Fb.other W173 (Or.inl ne_a_bd)
  replace Fx := Fx.other W173 (Or.inl ne_a_bd)
  replace Ff := Ff.other W173 (Or.inl ne_a_bd)
  replace Ft := Ft.other W173 (Or.inl ne_a_bd)
  replace Fd := Fd.other W173 (Or.inl ne_a_bd)
  replace Fn := Fn.other W173 (Or.inl ne_a_bd)
  replace Abd : Arv Z h172 bd kbd .int (16 : Int32) [(.int s), (.int e), (.int (0 : Int32)), (.int (0 : Int32)), (.int (0 : Int32)), (.int (0 : Int32)), (.int (0 : Int32)), (.int (0 : Int32)), (.int (0 : Int32)), (.int (0 : Int32)), (.int (0 : Int32)), (.int (0 : Int32)), (.int (0 : Int32)), (.int (0 : Int32)), (.int (0 : Int32)), (.int (0 : Int32))] (.int (0 : Int32)) := V174
  refine aloadN (pc' := 59) d_prog_8_method_3_58 rfl rfl rfl ?_
  refine dup (pc' := 60) d_prog_8_method_3_59 rfl rfl ?_
  refine getfield (i := 136) (pc' := 63) d_prog_8_method_3_60 rfl Fn rfl ?_
  refine iconst (pc' := 64) (v := (1 : Int32)) d_prog_8_method_3_63 rfl rfl ?_
  refine iadd (pc' := 65) d_prog_8_method_3_64 rfl ?_
  rw [show ((0 : Int32) + (1 : Int32)) = (1 : Int32) from by decide]
  refine putfield (i := 136) (i2 := 137) (i3 := 32) (pc' := 68) (v' := (.int (1 : Int32))) (ty := .int) d_prog_8_method_3_65 rfl (Or.inl rfl) rfl Fn Ea (by decide) rfl rfl (by simp) rfl fun h175 W176 => ?_
  replace K := K.wr W176 (Or.inl (by simp))
  replace Ea := Ea.wr W176
  replace Fb := Fb.other W176 (Or.inr (slot_ne (Or.inl (hw _ (List.mem_of_getElem? (i := 40) rfl))) (Or.inl (hw _ (List.mem_of_getElem? (i := 137) rfl))) (by decide) (t := (.array .int)) (t' := .int) (by decide) (by decide)))
  replace Fx := Fx.other W176 (Or.inr (slot_ne (Or.inr (hw _ (List.mem_of_getElem? (i := 42) rfl))) (Or.inl (hw _ (List.mem_of_getElem? (i := 137) rfl))) (by decide) (t := (.object "java/lang/String")) (t' := .int) (by decide) (by decide)))
  replace Ff := Ff.other W176 (Or.inr (slot_ne (Or.inr (hw _ (List.mem_of_getElem? (i := 44) rfl))) (Or.inl (hw _ (List.mem_of_getElem? (i := 137) rfl))) (by decide) (t := .int) (t' := .int) (by decide) (by decide)))
  replace Ft := Ft.other W176 (Or.inr (slot_ne (Or.inl (hw _ (List.mem_of_getElem? (i := 46) rfl))) (Or.inl (hw _ (List.mem_of_getElem? (i := 137) rfl))) (by decide) (t := .int) (t' := .int) (by decide) (by decide)))
  replace Fd := Fd.other W176 (Or.inr (slot_ne (Or.inl (hw _ (List.mem_of_getElem? (i := 58) rfl))) (Or.inl (hw _ (List.mem_of_getElem? (i := 137) rfl))) (by decide) (t := .int) (t' := .int) (by decide) (by decide)))
  replace Fn := Fn.same W176
  replace Abd := Abd.other W176 (Ne.symm ne_a_bd)
  exact retV d_prog_8_method_3_68 rfl (by decide) (by decide) ⟨rfl, K, ⟨Ea, Fb, Fx, Ff, Ft, Fd, Fn, Abd⟩⟩
set_option maxRecDepth 65536 in
set_option maxHeartbeats 40000000 in
theorem rm_add1 (l : Launch) (Z : State) (a0 : Array Value) (hw : ∀ d ∈ tables_1, d.before a0 Z = true) (hEL : EW Z a0 consts_1) (n0 : Nat) (a bd x : Addr) (kbd : ClassId) (f t d s e u0 u1 : Int32) (h : Heap)  (Hs : PSd Z h a bd x kbd f t d 1 [(.int u0), (.int u1), (.int (0 : Int32)), (.int (0 : Int32)), (.int (0 : Int32)), (.int (0 : Int32)), (.int (0 : Int32)), (.int (0 : Int32)), (.int (0 : Int32)), (.int (0 : Int32)), (.int (0 : Int32)), (.int (0 : Int32)), (.int (0 : Int32)), (.int (0 : Int32)), (.int (0 : Int32)), (.int (0 : Int32))]) :
    Met l false Z consts_1 n0 (⟨"gatelayer/PathSegments", "add", "(II)V"⟩ : MethodName) prog_8_method_3_code 3 none ({ frames := 0, cells := 0, slots := 0, locals := 0 } : Room) [] #[(.ref a), (.int s), (.int e)] [a, bd] h (fun v h' => v = none ∧ Keep h h' [a, bd] ∧ PSd Z h' a bd x kbd f t d 2 [(.int u0), (.int u1), (.int s), (.int e), (.int (0 : Int32)), (.int (0 : Int32)), (.int (0 : Int32)), (.int (0 : Int32)), (.int (0 : Int32)), (.int (0 : Int32)), (.int (0 : Int32)), (.int (0 : Int32)), (.int (0 : Int32)), (.int (0 : Int32)), (.int (0 : Int32)), (.int (0 : Int32))]) := by
  refine Met.of_body (a0 := a0) (L0 := #[.val (.ref a), .val (.int s), .val (.int e)]) (plainFor_of_name (by first | (simp [plainName, overriddenIn]; done) | decide +kernel)) (fun m => by first | rfl | (simp [entryFrame, mkF, argsToLocals, Value.category]; done)) hw hEL (by decide) ?_
  have K : Keep h h [a, bd] := Keep.refl _ _
  obtain ⟨Ea, Fb, Fx, Ff, Ft, Fd, Fn, Abd⟩ := id Hs
  have ne_a_bd : a ≠ bd := Ea.neArv Abd (hw _ (List.mem_of_getElem? (i := 32) rfl))
  refine iconst (pc' := 1) (v := (2 : Int32)) d_prog_8_method_3_0 rfl rfl ?_
  refine aloadN (pc' := 2) d_prog_8_method_3_1 rfl rfl rfl ?_
  refine getfield (i := 136) (pc' := 5) d_prog_8_method_3_2 rfl Fn rfl ?_
  refine imul (pc' := 6) d_prog_8_method_3_5 rfl ?_
  rw [show ((2 : Int32) * (1 : Int32)) = (2 : Int32) from by decide]
  refine aloadN (pc' := 7) d_prog_8_method_3_6 rfl rfl rfl ?_
  refine getfield (i := 39) (pc' := 10) d_prog_8_method_3_7 rfl Fb rfl ?_
  refine arraylength (pc' := 11) d_prog_8_method_3_10 Abd rfl ?_
  refine icmpT (pc' := 32) d_prog_8_method_3_11 (by decide : ¬ ((2 : Int32) = (16 : Int32))) (by decide) rfl ?_
  refine aloadN (pc' := 33) d_prog_8_method_3_32 rfl rfl rfl ?_
  refine getfield (i := 39) (pc' := 36) d_prog_8_method_3_33 rfl Fb rfl ?_
  refine iconst (pc' := 37) (v := (2 : Int32)) d_prog_8_method_3_36 rfl rfl ?_
  refine aloadN (pc' := 38) d_prog_8_method_3_37 rfl rfl rfl ?_
  refine getfield (i := 136) (pc' := 41) d_prog_8_method_3_38 rfl Fn rfl ?_
  refine imul (pc' := 42) d_prog_8_method_3_41 rfl ?_
  rw [show ((2 : Int32) * (1 : Int32)) = (2 : Int32) from by decide]
  refine iloadN (pc' := 43) d_prog_8_method_3_42 rfl rfl ?_
  refine iastore (pc' := 44) d_prog_8_method_3_43 Abd ⟨by decide, by decide⟩ (by simp) (Nat.le_of_ble_eq_true rfl) rfl fun h177 W178 V179 => ?_
  replace K := K.wr W178 (Or.inl (by simp))
  replace Ea := Ea.wr W178
  replace Fb := Fb.other W178 (Or.inl ne_a_bd)
  replace Fx := Fx.other W178 (Or.inl ne_a_bd)
  replace Ff := Ff.other W178 (Or.inl ne_a_bd)
  replace Ft := Ft.other W178 (Or.inl ne_a_bd)
  replace Fd := Fd.other W178 (Or.inl ne_a_bd)
  replace Fn := Fn.other W178 (Or.inl ne_a_bd)
  replace Abd : Arv Z h177 bd kbd .int (16 : Int32) [(.int u0), (.int u1), (.int s), (.int (0 : Int32)), (.int (0 : Int32)), (.int (0 : Int32)), (.int (0 : Int32)), (.int (0 : Int32)), (.int (0 : Int32)), (.int (0 : Int32)), (.int (0 : Int32)), (.int (0 : Int32)), (.int (0 : Int32)), (.int (0 : Int32)), (.int (0 : Int32)), (.int (0 : Int32))] (.int (0 : Int32)) := V179
  refine aloadN (pc' := 45) d_prog_8_method_3_44 rfl rfl rfl ?_
  refine getfield (i := 39) (pc' := 48) d_prog_8_method_3_45 rfl Fb rfl ?_
  refine iconst (pc' := 49) (v := (2 : Int32)) d_prog_8_method_3_48 rfl rfl ?_
  refine aloadN (pc' := 50) d_prog_8_method_3_49 rfl rfl rfl ?_
  refine getfield (i := 136) (pc' := 53) d_prog_8_method_3_50 rfl Fn rfl ?_
  refine imul (pc' := 54) d_prog_8_method_3_53 rfl ?_
  rw [show ((2 : Int32) * (1 : Int32)) = (2 : Int32) from by decide]
  refine iconst (pc' := 55) (v := (1 : Int32)) d_prog_8_method_3_54 rfl rfl ?_
  refine iadd (pc' := 56) d_prog_8_method_3_55 rfl ?_
  rw [show ((2 : Int32) + (1 : Int32)) = (3 : Int32) from by decide]
  refine iloadN (pc' := 57) d_prog_8_method_3_56 rfl rfl ?_
  refine iastore (pc' := 58) d_prog_8_method_3_57 Abd ⟨by decide, by decide⟩ (by simp) (Nat.le_of_ble_eq_true rfl) rfl fun h180 W181 V182 => ?_
  replace K := K.wr W181 (Or.inl (by simp))
  replace Ea := Ea.wr W181
  replace Fb := Fb.other W181 (Or.inl ne_a_bd)
  replace Fx := Fx.other W181 (Or.inl ne_a_bd)
  replace Ff := Ff.other W181 (Or.inl ne_a_bd)
  replace Ft := Ft.other W181 (Or.inl ne_a_bd)
  replace Fd := Fd.other W181 (Or.inl ne_a_bd)
  replace Fn := Fn.other W181 (Or.inl ne_a_bd)
  replace Abd : Arv Z h180 bd kbd .int (16 : Int32) [(.int u0), (.int u1), (.int s), (.int e), (.int (0 : Int32)), (.int (0 : Int32)), (.int (0 : Int32)), (.int (0 : Int32)), (.int (0 : Int32)), (.int (0 : Int32)), (.int (0 : Int32)), (.int (0 : Int32)), (.int (0 : Int32)), (.int (0 : Int32)), (.int (0 : Int32)), (.int (0 : Int32))] (.int (0 : Int32)) := V182
  refine aloadN (pc' := 59) d_prog_8_method_3_58 rfl rfl rfl ?_
  refine dup (pc' := 60) d_prog_8_method_3_59 rfl rfl ?_
  refine getfield (i := 136) (pc' := 63) d_prog_8_method_3_60 rfl Fn rfl ?_
  refine iconst (pc' := 64) (v := (1 : Int32)) d_prog_8_method_3_63 rfl rfl ?_
  refine iadd (pc' := 65) d_prog_8_method_3_64 rfl ?_
  rw [show ((1 : Int32) + (1 : Int32)) = (2 : Int32) from by decide]
  refine putfield (i := 136) (i2 := 137) (i3 := 32) (pc' := 68) (v' := (.int (2 : Int32))) (ty := .int) d_prog_8_method_3_65 rfl (Or.inl rfl) rfl Fn Ea (by decide) rfl rfl (by simp) rfl fun h183 W184 => ?_
  replace K := K.wr W184 (Or.inl (by simp))
  replace Ea := Ea.wr W184
  replace Fb := Fb.other W184 (Or.inr (slot_ne (Or.inl (hw _ (List.mem_of_getElem? (i := 40) rfl))) (Or.inl (hw _ (List.mem_of_getElem? (i := 137) rfl))) (by decide) (t := (.array .int)) (t' := .int) (by decide) (by decide)))
  replace Fx := Fx.other W184 (Or.inr (slot_ne (Or.inr (hw _ (List.mem_of_getElem? (i := 42) rfl))) (Or.inl (hw _ (List.mem_of_getElem? (i := 137) rfl))) (by decide) (t := (.object "java/lang/String")) (t' := .int) (by decide) (by decide)))
  replace Ff := Ff.other W184 (Or.inr (slot_ne (Or.inr (hw _ (List.mem_of_getElem? (i := 44) rfl))) (Or.inl (hw _ (List.mem_of_getElem? (i := 137) rfl))) (by decide) (t := .int) (t' := .int) (by decide) (by decide)))
  replace Ft := Ft.other W184 (Or.inr (slot_ne (Or.inl (hw _ (List.mem_of_getElem? (i := 46) rfl))) (Or.inl (hw _ (List.mem_of_getElem? (i := 137) rfl))) (by decide) (t := .int) (t' := .int) (by decide) (by decide)))
  replace Fd := Fd.other W184 (Or.inr (slot_ne (Or.inl (hw _ (List.mem_of_getElem? (i := 58) rfl))) (Or.inl (hw _ (List.mem_of_getElem? (i := 137) rfl))) (by decide) (t := .int) (t' := .int) (by decide) (by decide)))
  replace Fn := Fn.same W184
  replace Abd := Abd.other W184 (Ne.symm ne_a_bd)
  exact retV d_prog_8_method_3_68 rfl (by decide) (by decide) ⟨rfl, K, ⟨Ea, Fb, Fx, Ff, Ft, Fd, Fn, Abd⟩⟩
set_option maxRecDepth 65536 in
set_option maxHeartbeats 40000000 in
theorem rm_start (l : Launch) (Z : State) (a0 : Array Value) (hw : ∀ d ∈ tables_1, d.before a0 Z = true) (hEL : EW Z a0 consts_1) (n0 : Nat) (a bd x : Addr) (kbd : ClassId) (f t d n : Int32) (vs : List Value) (i k : Int32) (h : Heap)  (Hs : PSd Z h a bd x kbd f t d n vs) (hi : ¬ (2 * i) < 0 ∧ (2 * i) < 16) (hv : vs.getD (2 * i).toNatClampNeg (.int 0) = .int k) :
    Met l false Z consts_1 n0 (⟨"gatelayer/PathSegments", "start", "(I)I"⟩ : MethodName) prog_8_method_11_code 2 (some .int) ({ frames := 0, cells := 0, slots := 0, locals := 0 } : Room) [] #[(.ref a), (.int i)] [] h (fun v h' => v = some (.int k) ∧ h' = h) := by
  refine Met.of_body (a0 := a0) (L0 := #[.val (.ref a), .val (.int i)]) (plainFor_of_name (by first | (simp [plainName, overriddenIn]; done) | decide +kernel)) (fun m => by first | rfl | (simp [entryFrame, mkF, argsToLocals, Value.category]; done)) hw hEL (by decide) ?_
  obtain ⟨Ea, Fb, Fx, Ff, Ft, Fd, Fn, Abd⟩ := id Hs
  have ne_a_bd : a ≠ bd := Ea.neArv Abd (hw _ (List.mem_of_getElem? (i := 32) rfl))
  refine aloadN (pc' := 1) d_prog_8_method_11_0 rfl rfl rfl ?_
  refine getfield (i := 39) (pc' := 4) d_prog_8_method_11_1 rfl Fb rfl ?_
  refine iconst (pc' := 5) (v := (2 : Int32)) d_prog_8_method_11_4 rfl rfl ?_
  refine iloadN (pc' := 6) d_prog_8_method_11_5 rfl rfl ?_
  refine imul (pc' := 7) d_prog_8_method_11_6 rfl ?_
  refine iaload (v := .int k) (pc' := 8) d_prog_8_method_11_7 Abd hi hv rfl ?_
  exact retI d_prog_8_method_11_8 rfl (Or.inl rfl) rfl (by decide) (by decide) ⟨rfl, rfl⟩
set_option maxRecDepth 65536 in
set_option maxHeartbeats 40000000 in
theorem rm_end (l : Launch) (Z : State) (a0 : Array Value) (hw : ∀ d ∈ tables_1, d.before a0 Z = true) (hEL : EW Z a0 consts_1) (n0 : Nat) (a bd x : Addr) (kbd : ClassId) (f t d n : Int32) (vs : List Value) (i k : Int32) (h : Heap)  (Hs : PSd Z h a bd x kbd f t d n vs) (hi : ¬ (2 * i + 1) < 0 ∧ (2 * i + 1) < 16) (hv : vs.getD (2 * i + 1).toNatClampNeg (.int 0) = .int k) :
    Met l false Z consts_1 n0 (⟨"gatelayer/PathSegments", "end", "(I)I"⟩ : MethodName) prog_8_method_12_code 2 (some .int) ({ frames := 0, cells := 0, slots := 0, locals := 0 } : Room) [] #[(.ref a), (.int i)] [] h (fun v h' => v = some (.int k) ∧ h' = h) := by
  refine Met.of_body (a0 := a0) (L0 := #[.val (.ref a), .val (.int i)]) (plainFor_of_name (by first | (simp [plainName, overriddenIn]; done) | decide +kernel)) (fun m => by first | rfl | (simp [entryFrame, mkF, argsToLocals, Value.category]; done)) hw hEL (by decide) ?_
  obtain ⟨Ea, Fb, Fx, Ff, Ft, Fd, Fn, Abd⟩ := id Hs
  have ne_a_bd : a ≠ bd := Ea.neArv Abd (hw _ (List.mem_of_getElem? (i := 32) rfl))
  refine aloadN (pc' := 1) d_prog_8_method_12_0 rfl rfl rfl ?_
  refine getfield (i := 39) (pc' := 4) d_prog_8_method_12_1 rfl Fb rfl ?_
  refine iconst (pc' := 5) (v := (2 : Int32)) d_prog_8_method_12_4 rfl rfl ?_
  refine iloadN (pc' := 6) d_prog_8_method_12_5 rfl rfl ?_
  refine imul (pc' := 7) d_prog_8_method_12_6 rfl ?_
  refine iconst (pc' := 8) (v := (1 : Int32)) d_prog_8_method_12_7 rfl rfl ?_
  refine iadd (pc' := 9) d_prog_8_method_12_8 rfl ?_
  refine iaload (v := .int k) (pc' := 10) d_prog_8_method_12_9 Abd hi hv rfl ?_
  exact retI d_prog_8_method_12_10 rfl (Or.inl rfl) rfl (by decide) (by decide) ⟨rfl, rfl⟩
set_option maxRecDepth 65536 in
set_option maxHeartbeats 40000000 in
theorem rm_tr (l : Launch) (Z : State) (a0 : Array Value) (hw : ∀ d ∈ tables_1, d.before a0 Z = true) (hEL : EW Z a0 consts_1) (n0 : Nat) (a bd x : Addr) (kbd : ClassId) (d n : Int32) (vs : List Value) (cs : List Int32) (f2 : Nat) (h : Heap)  (hB : Sets Z) (Hs : PSd Z h a bd x kbd 1 (Int32.ofNat (f2 + 1)) d n vs) (Sx : Str Z h x cs) (hn : cs.length < 8) (hf2 : f2 < cs.length) (h1 : 1 ≤ f2) (hc : ¬ cs.getD f2 0 = 47) :
    Met l false Z consts_1 n0 (⟨"gatelayer/PathSegments", "trailingSlash", "()Z"⟩ : MethodName) prog_8_method_15_code 1 (some .boolean) ({ frames := 4, cells := 0, slots := 0, locals := 60 } : Room) [] #[(.ref a)] [] h (fun v h' => v = some (.int 0) ∧ h' = h) := by
  refine Met.of_body (a0 := a0) (L0 := #[.val (.ref a)]) (plainFor_of_name (by first | (simp [plainName, overriddenIn]; done) | decide +kernel)) (fun m => by first | rfl | (simp [entryFrame, mkF, argsToLocals, Value.category]; done)) hw hEL (by decide) ?_
  obtain ⟨Ea, Fb, Fx, Ff, Ft, Fd, Fn, Abd⟩ := id Hs
  have ne_a_bd : a ≠ bd := Ea.neArv Abd (hw _ (List.mem_of_getElem? (i := 32) rfl))
  refine aloadN (pc' := 1) d_prog_8_method_15_0 rfl rfl rfl ?_
  refine getfield (i := 43) (pc' := 4) d_prog_8_method_15_1 rfl Ff rfl ?_
  refine aloadN (pc' := 5) d_prog_8_method_15_4 rfl rfl rfl ?_
  refine getfield (i := 45) (pc' := 8) d_prog_8_method_15_5 rfl Ft rfl ?_
  refine icmpF (pc' := 11) d_prog_8_method_15_8 ((own_lt 1 (by decide) (f2 + 1) (by omega)).mpr (by omega) : (1 : Int32) < (Int32.ofNat (f2 + 1))) rfl ?_
  refine aloadN (pc' := 12) d_prog_8_method_15_11 rfl rfl rfl ?_
  refine getfield (i := 41) (pc' := 15) d_prog_8_method_15_12 rfl Fx rfl ?_
  refine aloadN (pc' := 16) d_prog_8_method_15_15 rfl rfl rfl ?_
  refine getfield (i := 45) (pc' := 19) d_prog_8_method_15_16 rfl Ft rfl ?_
  refine iconst (pc' := 20) (v := (1 : Int32)) d_prog_8_method_15_19 rfl rfl ?_
  refine isub (pc' := 21) d_prog_8_method_15_20 rfl ?_
  rw [show ((Int32.ofNat (f2 + 1)) - (1 : Int32)) = (Int32.ofNat f2) from by rw [show (1 : Int32) = Int32.ofNat 1 from rfl, own_sb _ (by omega) _ (by omega) (by omega), Nat.add_sub_cancel]]
  refine strAt (i := 2) (Wd := 0) (j := f2) (c := cs.getD f2 0) (pc' := 24) hB (by decide +kernel) rfl (kVirt (i := 234) (i2 := 235) (i3 := 237) (i4 := 236) (C := "java/lang/String") (a := x) (argsL := [(.int (Int32.ofNat f2))]) (S' := []) (Wd := 0) d_prog_8_method_15_21 rfl rfl rfl rfl Sx.exa (by decide) rfl pd_18 rfl rfl (Nat.le_of_ble_eq_true rfl)) Sx hf2 rfl rfl (by decide) (by decide) (by decide) (by decide) rfl ?_
  refine at' (ce' := 0) (sl' := 0) (pc' := 24) (L' := #[.val (.ref a)]) (S' := [(.int (cs.getD f2 0))]) rfl rfl rfl rfl rfl ?_
  refine bipush (pc' := 26) (v := (47 : Int32)) d_prog_8_method_15_24 rfl rfl ?_
  refine icmpT (pc' := 33) d_prog_8_method_15_26 (hc : ¬ ((cs.getD f2 0) = (47 : Int32))) (by decide) rfl ?_
  refine iconst (pc' := 34) (v := (0 : Int32)) d_prog_8_method_15_33 rfl rfl ?_
  exact retI d_prog_8_method_15_34 rfl (Or.inr (Or.inl rfl)) rfl (by decide) (by decide) ⟨rfl, rfl⟩
set_option maxRecDepth 65536 in
set_option maxHeartbeats 40000000 in
theorem rm_p1 (l : Launch) (Z : State) (a0 : Array Value) (hw : ∀ d ∈ tables_1, d.before a0 Z = true) (hEL : EW Z a0 consts_1) (n0 : Nat) (a bd x : Addr) (kbd : ClassId) (n : Int32) (vs : List Value) (cs : List Int32) (f k : Nat) (h : Heap)  (hB : Sets Z) (Hs : PSd Z h a bd x kbd (Int32.ofNat f) (Int32.ofNat (f + k)) 0 n vs) (Sx : Str Z h x cs) (hn : cs.length < 8) (hfk : f + k ≤ cs.length) :
    Met l false Z consts_1 n0 (⟨"gatelayer/PathSegments", "path", "()Ljava/lang/String;"⟩ : MethodName) prog_8_method_9_code 3 (some (.object "java/lang/String")) ({ frames := 5, cells := 2, slots := 11, locals := 130 } : Room) [] #[(.ref a)] [] h (fun v h' => ∃ r, v = some (.ref r) ∧ Ext h h' ∧ Str Z h' r ((cs.drop f).take k)) := by
  refine Met.of_body (a0 := a0) (L0 := #[.val (.ref a), .unset, .unset]) (plainFor_of_name (by first | (simp [plainName, overriddenIn]; done) | decide +kernel)) (fun m => by first | rfl | (simp [entryFrame, mkF, argsToLocals, Value.category]; done)) hw hEL (by decide) ?_
  obtain ⟨Ea, Fb, Fx, Ff, Ft, Fd, Fn, Abd⟩ := id Hs
  have ne_a_bd : a ≠ bd := Ea.neArv Abd (hw _ (List.mem_of_getElem? (i := 32) rfl))
  refine aloadN (pc' := 1) d_prog_8_method_9_0 rfl rfl rfl ?_
  refine getfield (i := 57) (pc' := 4) d_prog_8_method_9_1 rfl Fd rfl ?_
  refine ifF (pc' := 7) d_prog_8_method_9_4 (rfl : (0 : Int32) = (0 : Int32)) rfl ?_
  refine aloadN (pc' := 8) d_prog_8_method_9_7 rfl rfl rfl ?_
  refine getfield (i := 43) (pc' := 11) d_prog_8_method_9_8 rfl Ff rfl ?_
  have J35 : Wq l false Z consts_1 a0 n0 (⟨"gatelayer/PathSegments", "path", "()Ljava/lang/String;"⟩ : MethodName) prog_8_method_9_code 3 (some (.object "java/lang/String")) ({ frames := 5, cells := 2, slots := 11, locals := 130 } : Room) h (fun v h' => ∃ r, v = some (.ref r) ∧ Ext h h' ∧ Str Z h' r ((cs.drop f).take k)) [] h 0 0 35 #[.val (.ref a), .unset, .unset] [] := by
    refine aloadN (pc' := 36) d_prog_8_method_9_35 rfl rfl rfl ?_
    refine getfield (i := 41) (pc' := 39) d_prog_8_method_9_36 rfl Fx rfl ?_
    refine aloadN (pc' := 40) d_prog_8_method_9_39 rfl rfl rfl ?_
    refine getfield (i := 43) (pc' := 43) d_prog_8_method_9_40 rfl Ff rfl ?_
    refine aloadN (pc' := 44) d_prog_8_method_9_43 rfl rfl rfl ?_
    refine getfield (i := 45) (pc' := 47) d_prog_8_method_9_44 rfl Ft rfl ?_
    refine call (i := 73) (i2 := 3) (Wd := 0) (pc' := 50) (kVirt (i := 69) (i2 := 70) (i3 := 72) (i4 := 71) (C := "java/lang/String") (a := x) (argsL := [(.int (Int32.ofNat f)), (.int (Int32.ofNat (f + k)))]) (S' := []) (Wd := 0) d_prog_8_method_9_47 rfl rfl rfl rfl (Sx.exa) (by decide) rfl pd_19 rfl rfl (Nat.le_of_ble_eq_true rfl)) (rm_su l Z a0 hw hEL n0 x cs f k _ Sx hB hn hfk) rfl rfl (by simp) (by decide) (by decide) (by decide) (by decide) rfl fun v_ h185 P186 sz187 => ?_
    obtain ⟨r, rfl, X1, S1⟩ := P186
    refine at' (ce' := 2) (sl' := 11) (pc' := 50) (L' := #[.val (.ref a), .unset, .unset]) (S' := [(.ref r)]) rfl rfl rfl rfl rfl ?_
    exact retA d_prog_8_method_9_50 rfl rfl rfl (by decide) (by decide) ⟨r, rfl, X1, S1⟩
  refine ifc (pc' := 35) (pcF := 14) d_prog_8_method_9_11 (by decide) rfl rfl (fun (q0 : ¬ ((Int32.ofNat f) = (0 : Int32))) => ?_) (fun (q0 : (Int32.ofNat f) = (0 : Int32)) => ?_)
  · skip
    exact J35
  · skip
    have f0 := own_k0 f (by omega) q0
    refine aloadN (pc' := 15) d_prog_8_method_9_14 rfl rfl rfl ?_
    refine getfield (i := 45) (pc' := 18) d_prog_8_method_9_15 rfl Ft rfl ?_
    refine aloadN (pc' := 19) d_prog_8_method_9_18 rfl rfl rfl ?_
    refine getfield (i := 41) (pc' := 22) d_prog_8_method_9_19 rfl Fx rfl ?_
    refine strLen (i := 2) (Wd := 1) (cs := cs) (pc' := 25) hB (by decide +kernel) rfl (kVirt (i := 139) (i2 := 75) (i3 := 77) (i4 := 76) (C := "java/lang/String") (a := x) (argsL := []) (S' := [(.int (Int32.ofNat (f + k)))]) (Wd := 1) d_prog_8_method_9_22 rfl rfl rfl rfl Sx.exa (by decide) rfl pd_5 rfl rfl (Nat.le_of_ble_eq_true rfl)) Sx (by decide) (by decide) (by decide) (by decide) rfl ?_
    refine at' (ce' := 0) (sl' := 0) (pc' := 25) (L' := #[.val (.ref a), .unset, .unset]) (S' := [(.int (Int32.ofNat (cs).length)), (.int (Int32.ofNat (f + k)))]) rfl rfl rfl rfl rfl ?_
    refine icmp (pc' := 35) (pcF := 28) d_prog_8_method_9_25 (by decide) rfl rfl (fun (q1 : ¬ ((Int32.ofNat (f + k)) = (Int32.ofNat (cs).length))) => ?_) (fun (q1 : (Int32.ofNat (f + k)) = (Int32.ofNat (cs).length)) => ?_)
    · skip
      exact J35
    · skip
      have k0 := own_inj _ (by omega) _ (by omega) q1
      refine aloadN (pc' := 29) d_prog_8_method_9_28 rfl rfl rfl ?_
      refine getfield (i := 41) (pc' := 32) d_prog_8_method_9_29 rfl Fx rfl ?_
      refine goto (pc' := 50) d_prog_8_method_9_32 (by decide) rfl ?_
      exact retA d_prog_8_method_9_50 rfl rfl rfl (by decide) (by decide) ⟨x, rfl, ⟨Nat.le_refl _, fun _ _ q => q⟩, by rw [f0, List.drop_zero, List.take_of_length_le (by omega)]; exact Sx⟩
set_option maxRecDepth 65536 in
set_option maxHeartbeats 40000000 in
theorem rm_p2 (l : Launch) (Z : State) (a0 : Array Value) (hw : ∀ d ∈ tables_1, d.before a0 Z = true) (hEL : EW Z a0 consts_1) (n0 : Nat) (a bd x : Addr) (kbd : ClassId) (d : Int32) (vs : List Value) (cs : List Int32) (f1 f2 : Nat) (h : Heap)  (hI : Iof Z) (hd : ¬ d = 0) (hk : (Int32.ofNat (f2 + 1)) - 1 - d = 4) (hf1 : f1 < cs.length) (hv0 : vs.getD 0 (.int 0) = .int (Int32.ofNat f1)) (hv1 : vs.getD 1 (.int 0) = .int (Int32.ofNat (f1 + 1))) (hv2 : vs.getD 2 (.int 0) = .int (Int32.ofNat f2)) (hv3 : vs.getD 3 (.int 0) = .int (Int32.ofNat (f2 + 1))) (hB : Sets Z) (Hs : PSd Z h a bd x kbd 1 (Int32.ofNat (f2 + 1)) d 2 vs) (Sx : Str Z h x cs) (hn : cs.length < 8) (hf2 : f2 < cs.length) (h1 : 1 ≤ f2) (hc : ¬ cs.getD f2 0 = 47) :
    Met l false Z consts_1 n0 (⟨"gatelayer/PathSegments", "path", "()Ljava/lang/String;"⟩ : MethodName) prog_8_method_9_code 3 (some (.object "java/lang/String")) ({ frames := 5, cells := 4, slots := 16, locals := 140 } : Room) [] #[(.ref a)] [] h (fun v h' => ∃ (r : Addr) (ds : List Int32), v = some (.ref r) ∧ Ext h h' ∧ Str Z h' r ds ∧ ds.length = 4) := by
  refine Met.of_body (a0 := a0) (L0 := #[.val (.ref a), .unset, .unset]) (plainFor_of_name (by first | (simp [plainName, overriddenIn]; done) | decide +kernel)) (fun m => by first | rfl | (simp [entryFrame, mkF, argsToLocals, Value.category]; done)) hw hEL (by decide) ?_
  have K : Keep h h [] := Keep.refl _ _
  obtain ⟨Ea, Fb, Fx, Ff, Ft, Fd, Fn, Abd⟩ := id Hs
  have ne_a_bd : a ≠ bd := Ea.neArv Abd (hw _ (List.mem_of_getElem? (i := 32) rfl))
  refine aloadN (pc' := 1) d_prog_8_method_9_0 rfl rfl rfl ?_
  refine getfield (i := 57) (pc' := 4) d_prog_8_method_9_1 rfl Fd rfl ?_
  refine ifT (pc' := 51) d_prog_8_method_9_4 (hd : ¬ (d = (0 : Int32))) (by decide) rfl ?_
  refine new (i := 143) (i2 := 144) (i3 := 145) (pc' := 54) d_prog_8_method_9_51 rfl rfl rfl (by decide) (by decide) rfl fun h188 a189 g190 E191 A192 D193 => ?_
  have sz_a189 : h.size ≤ a189 := by rw [g190]; exact K.1
  have ne_a_a189 : a ≠ a189 := Nat.ne_of_lt (by rw [g190]; exact Ea.lt)
  have ne_bd_a189 : bd ≠ a189 := Nat.ne_of_lt (by rw [g190]; exact Abd.lt)
  replace K := K.ext E191
  replace Ea := Ea.ext E191
  replace Fb := Fb.ext E191
  replace Fx := Fx.ext E191
  replace Ff := Ff.ext E191
  replace Ft := Ft.ext E191
  replace Fd := Fd.ext E191
  replace Fn := Fn.ext E191
  replace Abd := Abd.ext E191
  have F_value_a189 : Fld Z h188 a189 "java/lang/AbstractStringBuilder" "value" "[B" .null := D193 (Or.inl (hw _ (List.mem_of_getElem? (i := 159) rfl))) (ty := (.array .byte)) (by decide)
  have F_coder_a189 : Fld Z h188 a189 "java/lang/AbstractStringBuilder" "coder" "B" (.int (0 : Int32)) := D193 (Or.inl (hw _ (List.mem_of_getElem? (i := 161) rfl))) (ty := .byte) (by decide)
  have F_count_a189 : Fld Z h188 a189 "java/lang/AbstractStringBuilder" "count" "I" (.int (0 : Int32)) := D193 (Or.inl (hw _ (List.mem_of_getElem? (i := 173) rfl))) (ty := .int) (by decide)
  refine dup (pc' := 55) d_prog_8_method_9_54 rfl rfl ?_
  refine aloadN (pc' := 56) d_prog_8_method_9_55 rfl rfl rfl ?_
  refine call (i := 63) (i2 := 33) (Wd := 2) (pc' := 59) (kVirt (i := 146) (i2 := 60) (i3 := 62) (i4 := 61) (C := "gatelayer/PathSegments") (a := a) (argsL := []) (S' := [(.ref a189), (.ref a189)]) (Wd := 2) d_prog_8_method_9_56 rfl rfl rfl rfl Ea (by decide) rfl pd_5 rfl rfl (Nat.le_of_ble_eq_true rfl)) (rm_len l Z a0 hw hEL n0 a bd x kbd 1 (Int32.ofNat (f2 + 1)) d 2 vs 4 _ ⟨Ea, Fb, Fx, Ff, Ft, Fd, Fn, Abd⟩ hk) rfl rfl (by simp) (by decide) (by decide) (by decide) (by decide) rfl fun v_ h194 P195 sz196 => ?_
  obtain ⟨rfl, e197⟩ := P195
  rw [e197]
  refine at' (ce' := 1) (sl' := 4) (pc' := 59) (L' := #[.val (.ref a), .unset, .unset]) (S' := [(.int (4 : Int32)), (.ref a189), (.ref a189)]) rfl rfl rfl rfl rfl ?_
  have hs0 := A192.lt
  refine call (i := 149) (i2 := 145) (Wd := 1) (pc' := 62) (kInit (i := 147) (i2 := 148) (i4 := 149) (a := a189) (argsL := [(.int (4 : Int32))]) (S' := [(.ref a189)]) (Wd := 1) d_prog_8_method_9_59 rfl rfl rfl rfl (by decide) rfl pd_9 rfl rfl (Nat.le_of_ble_eq_true rfl)) (rm_sbi l Z a0 hw hEL n0 a189 _ A192 F_value_a189 F_coder_a189 F_count_a189 hB) rfl rfl (by simp) (by decide) (by decide) (by decide) (by decide) rfl fun v_ h198 P199 sz200 => ?_
  obtain ⟨b, rfl, K1, hb1, H1⟩ := P199
  have sz_b : h.size ≤ b := Nat.le_trans K.1 hb1
  replace K := K.trans K1 (allS (Or.inr sz_a189) all0)
  have X := keepExt K
  have Sy := Sx.ext X
  have Py := Hs.ext X
  obtain ⟨Ea, Fb, Fx, Ff, Ft, Fd, Fn, Abd⟩ := id Py
  refine at' (ce' := 2) (sl' := 8) (pc' := 62) (L' := #[.val (.ref a), .unset, .unset]) (S' := [(.ref a189)]) rfl rfl rfl rfl rfl ?_
  refine fsz fun Fz => ?_
  have hnb : n0 ≤ b := Nat.le_trans (Fz a189 (by simp)).1 (Nat.le_trans (Nat.le_of_lt hs0) hb1)
  obtain ⟨kb0, cs0, -, -, Ab0, -⟩ := id H1.2.2.2.2
  refine adoptB Ab0 (by decide) (fun p hp => by cases List.mem_singleton.mp hp; exact hw _ (List.mem_of_getElem? (i := 140) rfl)) hnb ?_
  refine astoreN (pc' := 63) (L' := #[.val (.ref a), .val (.ref a189), .unset]) d_prog_8_method_9_62 rfl rfl rfl ?_
  refine iconst (pc' := 64) (v := (0 : Int32)) d_prog_8_method_9_63 rfl rfl ?_
  refine istoreN (pc' := 65) (L' := #[.val (.ref a), .val (.ref a189), .val (.int (0 : Int32))]) d_prog_8_method_9_64 rfl rfl ?_
  refine iloadN (pc' := 66) d_prog_8_method_9_65 rfl rfl ?_
  refine aloadN (pc' := 67) d_prog_8_method_9_66 rfl rfl rfl ?_
  refine getfield (i := 136) (pc' := 70) d_prog_8_method_9_67 rfl Fn rfl ?_
  refine icmpF (pc' := 73) d_prog_8_method_9_70 (by decide : (0 : Int32) < (2 : Int32)) rfl ?_
  refine aloadN (pc' := 74) d_prog_8_method_9_73 rfl rfl rfl ?_
  refine bipush (pc' := 76) (v := (47 : Int32)) d_prog_8_method_9_74 rfl rfl ?_
  refine call (i := 166) (i2 := 145) (Wd := 0) (pc' := 79) (kVirt (i := 162) (i2 := 163) (i3 := 165) (i4 := 164) (C := "java/lang/StringBuilder") (a := a189) (argsL := [(.int (47 : Int32))]) (S' := []) (Wd := 0) d_prog_8_method_9_76 rfl rfl rfl rfl (H1.1) (by decide) rfl pd_20 rfl rfl (Nat.le_of_ble_eq_true rfl)) (rm_sac l Z a0 hw hEL n0 a189 b (47 : Int32) 0 _ hB H1 (ok_of (by decide) (by decide)) (by decide)) rfl rfl (by simp) (by decide) (by decide) (by decide) (by decide) rfl fun v_ h201 P202 sz203 => ?_
  obtain ⟨rfl, Kp0, Ha0⟩ := P202
  replace K := K.trans Kp0 (allS (Or.inr sz_a189) (allS (Or.inr sz_b) all0))
  have X := keepExt K
  replace Sy := Sx.ext X
  replace Py := Hs.ext X
  obtain ⟨Ea, Fb, Fx, Ff, Ft, Fd, Fn, Abd⟩ := id Py
  refine at' (ce' := 2) (sl' := 8) (pc' := 79) (L' := #[.val (.ref a), .val (.ref a189), .val (.int (0 : Int32))]) (S' := [(.ref a189)]) rfl rfl rfl rfl rfl ?_
  refine aloadN (pc' := 80) d_prog_8_method_9_79 rfl rfl rfl ?_
  refine getfield (i := 41) (pc' := 83) d_prog_8_method_9_80 rfl Fx rfl ?_
  refine aloadN (pc' := 84) d_prog_8_method_9_83 rfl rfl rfl ?_
  refine iloadN (pc' := 85) d_prog_8_method_9_84 rfl rfl ?_
  refine call (i := 191) (i2 := 33) (Wd := 2) (pc' := 88) (kVirt (i := 187) (i2 := 188) (i3 := 190) (i4 := 189) (C := "gatelayer/PathSegments") (a := a) (argsL := [(.int (0 : Int32))]) (S' := [(.ref x), (.ref a189)]) (Wd := 2) d_prog_8_method_9_85 rfl rfl rfl rfl Ea (by decide) rfl pd_21 rfl rfl (Nat.le_of_ble_eq_true rfl)) (rm_start l Z a0 hw hEL n0 a bd x kbd 1 (Int32.ofNat (f2 + 1)) d 2 vs (0 : Int32) (Int32.ofNat f1) _ Py (by decide) (by rw [show ((2 : Int32) * (0 : Int32)).toNatClampNeg = 0 from by decide]; exact hv0)) rfl rfl (by simp) (by decide) (by decide) (by decide) (by decide) rfl fun v_ h204 P205 sz206 => ?_
  obtain ⟨rfl, e207⟩ := P205
  rw [e207]
  refine at' (ce' := 2) (sl' := 8) (pc' := 88) (L' := #[.val (.ref a), .val (.ref a189), .val (.int (0 : Int32))]) (S' := [(.int (Int32.ofNat f1)), (.ref x), (.ref a189)]) rfl rfl rfl rfl rfl ?_
  refine aloadN (pc' := 89) d_prog_8_method_9_88 rfl rfl rfl ?_
  refine iloadN (pc' := 90) d_prog_8_method_9_89 rfl rfl ?_
  refine call (i := 196) (i2 := 33) (Wd := 3) (pc' := 93) (kVirt (i := 192) (i2 := 193) (i3 := 195) (i4 := 194) (C := "gatelayer/PathSegments") (a := a) (argsL := [(.int (0 : Int32))]) (S' := [(.int (Int32.ofNat f1)), (.ref x), (.ref a189)]) (Wd := 3) d_prog_8_method_9_90 rfl rfl rfl rfl Ea (by decide) rfl pd_21 rfl rfl (Nat.le_of_ble_eq_true rfl)) (rm_end l Z a0 hw hEL n0 a bd x kbd 1 (Int32.ofNat (f2 + 1)) d 2 vs (0 : Int32) (Int32.ofNat (f1 + 1)) _ Py (by decide) (by rw [show ((2 : Int32) * (0 : Int32) + 1).toNatClampNeg = 1 from by decide]; exact hv1)) rfl rfl (by simp) (by decide) (by decide) (by decide) (by decide) rfl fun v_ h208 P209 sz210 => ?_
  obtain ⟨rfl, e211⟩ := P209
  rw [e211]
  refine at' (ce' := 2) (sl' := 8) (pc' := 93) (L' := #[.val (.ref a), .val (.ref a189), .val (.int (0 : Int32))]) (S' := [(.int (Int32.ofNat (f1 + 1))), (.int (Int32.ofNat f1)), (.ref x), (.ref a189)]) rfl rfl rfl rfl rfl ?_
  refine call (i := 201) (i2 := 145) (Wd := 0) (pc' := 96) (kVirt (i := 197) (i2 := 198) (i3 := 200) (i4 := 199) (C := "java/lang/StringBuilder") (a := a189) (argsL := [(.ref x), (.int (Int32.ofNat f1)), (.int (Int32.ofNat (f1 + 1)))]) (S' := []) (Wd := 0) d_prog_8_method_9_93 rfl rfl rfl rfl (Ha0.1) (by decide) rfl pd_22 rfl rfl (Nat.le_of_ble_eq_true rfl)) (rm_sacs l Z a0 hw hEL n0 a189 b x cs f1 1 _ hB hI Ha0 Sy (by omega) hn (by decide)) rfl rfl (by simp) (by decide) (by decide) (by decide) (by decide) rfl fun v_ h212 P213 sz214 => ?_
  obtain ⟨rfl, Kq0, Hb0⟩ := P213
  replace K := K.trans Kq0 (allS (Or.inr sz_a189) (allS (Or.inr sz_b) all0))
  have X := keepExt K
  replace Sy := Sx.ext X
  replace Py := Hs.ext X
  obtain ⟨Ea, Fb, Fx, Ff, Ft, Fd, Fn, Abd⟩ := id Py
  refine at' (ce' := 2) (sl' := 8) (pc' := 96) (L' := #[.val (.ref a), .val (.ref a189), .val (.int (0 : Int32))]) (S' := [(.ref a189)]) rfl rfl rfl rfl rfl ?_
  refine Ow.pop (pc' := 97) d_prog_8_method_9_96 rfl rfl ?_
  refine iinc (pc' := 100) (v := (1 : Int32)) (L' := #[.val (.ref a), .val (.ref a189), .val (.int (1 : Int32))]) d_prog_8_method_9_97 rfl rfl rfl rfl ?_
  refine goto (pc' := 65) d_prog_8_method_9_100 (by decide) rfl ?_
  refine iloadN (pc' := 66) d_prog_8_method_9_65 rfl rfl ?_
  refine aloadN (pc' := 67) d_prog_8_method_9_66 rfl rfl rfl ?_
  refine getfield (i := 136) (pc' := 70) d_prog_8_method_9_67 rfl Fn rfl ?_
  refine icmpF (pc' := 73) d_prog_8_method_9_70 (by decide : (1 : Int32) < (2 : Int32)) rfl ?_
  refine aloadN (pc' := 74) d_prog_8_method_9_73 rfl rfl rfl ?_
  refine bipush (pc' := 76) (v := (47 : Int32)) d_prog_8_method_9_74 rfl rfl ?_
  refine call (i := 166) (i2 := 145) (Wd := 0) (pc' := 79) (kVirt (i := 162) (i2 := 163) (i3 := 165) (i4 := 164) (C := "java/lang/StringBuilder") (a := a189) (argsL := [(.int (47 : Int32))]) (S' := []) (Wd := 0) d_prog_8_method_9_76 rfl rfl rfl rfl (Hb0.1) (by decide) rfl pd_20 rfl rfl (Nat.le_of_ble_eq_true rfl)) (rm_sac l Z a0 hw hEL n0 a189 b (47 : Int32) 2 _ hB Hb0 (ok_of (by decide) (by decide)) (by decide)) rfl rfl (by simp) (by decide) (by decide) (by decide) (by decide) rfl fun v_ h215 P216 sz217 => ?_
  obtain ⟨rfl, Kp1, Ha1⟩ := P216
  replace K := K.trans Kp1 (allS (Or.inr sz_a189) (allS (Or.inr sz_b) all0))
  have X := keepExt K
  replace Sy := Sx.ext X
  replace Py := Hs.ext X
  obtain ⟨Ea, Fb, Fx, Ff, Ft, Fd, Fn, Abd⟩ := id Py
  refine at' (ce' := 2) (sl' := 8) (pc' := 79) (L' := #[.val (.ref a), .val (.ref a189), .val (.int (1 : Int32))]) (S' := [(.ref a189)]) rfl rfl rfl rfl rfl ?_
  refine aloadN (pc' := 80) d_prog_8_method_9_79 rfl rfl rfl ?_
  refine getfield (i := 41) (pc' := 83) d_prog_8_method_9_80 rfl Fx rfl ?_
  refine aloadN (pc' := 84) d_prog_8_method_9_83 rfl rfl rfl ?_
  refine iloadN (pc' := 85) d_prog_8_method_9_84 rfl rfl ?_
  refine call (i := 191) (i2 := 33) (Wd := 2) (pc' := 88) (kVirt (i := 187) (i2 := 188) (i3 := 190) (i4 := 189) (C := "gatelayer/PathSegments") (a := a) (argsL := [(.int (1 : Int32))]) (S' := [(.ref x), (.ref a189)]) (Wd := 2) d_prog_8_method_9_85 rfl rfl rfl rfl Ea (by decide) rfl pd_21 rfl rfl (Nat.le_of_ble_eq_true rfl)) (rm_start l Z a0 hw hEL n0 a bd x kbd 1 (Int32.ofNat (f2 + 1)) d 2 vs (1 : Int32) (Int32.ofNat f2) _ Py (by decide) (by rw [show ((2 : Int32) * (1 : Int32)).toNatClampNeg = 2 from by decide]; exact hv2)) rfl rfl (by simp) (by decide) (by decide) (by decide) (by decide) rfl fun v_ h218 P219 sz220 => ?_
  obtain ⟨rfl, e221⟩ := P219
  rw [e221]
  refine at' (ce' := 2) (sl' := 8) (pc' := 88) (L' := #[.val (.ref a), .val (.ref a189), .val (.int (1 : Int32))]) (S' := [(.int (Int32.ofNat f2)), (.ref x), (.ref a189)]) rfl rfl rfl rfl rfl ?_
  refine aloadN (pc' := 89) d_prog_8_method_9_88 rfl rfl rfl ?_
  refine iloadN (pc' := 90) d_prog_8_method_9_89 rfl rfl ?_
  refine call (i := 196) (i2 := 33) (Wd := 3) (pc' := 93) (kVirt (i := 192) (i2 := 193) (i3 := 195) (i4 := 194) (C := "gatelayer/PathSegments") (a := a) (argsL := [(.int (1 : Int32))]) (S' := [(.int (Int32.ofNat f2)), (.ref x), (.ref a189)]) (Wd := 3) d_prog_8_method_9_90 rfl rfl rfl rfl Ea (by decide) rfl pd_21 rfl rfl (Nat.le_of_ble_eq_true rfl)) (rm_end l Z a0 hw hEL n0 a bd x kbd 1 (Int32.ofNat (f2 + 1)) d 2 vs (1 : Int32) (Int32.ofNat (f2 + 1)) _ Py (by decide) (by rw [show ((2 : Int32) * (1 : Int32) + 1).toNatClampNeg = 3 from by decide]; exact hv3)) rfl rfl (by simp) (by decide) (by decide) (by decide) (by decide) rfl fun v_ h222 P223 sz224 => ?_
  obtain ⟨rfl, e225⟩ := P223
  rw [e225]
  refine at' (ce' := 2) (sl' := 8) (pc' := 93) (L' := #[.val (.ref a), .val (.ref a189), .val (.int (1 : Int32))]) (S' := [(.int (Int32.ofNat (f2 + 1))), (.int (Int32.ofNat f2)), (.ref x), (.ref a189)]) rfl rfl rfl rfl rfl ?_
  refine call (i := 201) (i2 := 145) (Wd := 0) (pc' := 96) (kVirt (i := 197) (i2 := 198) (i3 := 200) (i4 := 199) (C := "java/lang/StringBuilder") (a := a189) (argsL := [(.ref x), (.int (Int32.ofNat f2)), (.int (Int32.ofNat (f2 + 1)))]) (S' := []) (Wd := 0) d_prog_8_method_9_93 rfl rfl rfl rfl (Ha1.1) (by decide) rfl pd_22 rfl rfl (Nat.le_of_ble_eq_true rfl)) (rm_sacs l Z a0 hw hEL n0 a189 b x cs f2 3 _ hB hI Ha1 Sy (by omega) hn (by decide)) rfl rfl (by simp) (by decide) (by decide) (by decide) (by decide) rfl fun v_ h226 P227 sz228 => ?_
  obtain ⟨rfl, Kq1, Hb1⟩ := P227
  replace K := K.trans Kq1 (allS (Or.inr sz_a189) (allS (Or.inr sz_b) all0))
  have X := keepExt K
  replace Sy := Sx.ext X
  replace Py := Hs.ext X
  obtain ⟨Ea, Fb, Fx, Ff, Ft, Fd, Fn, Abd⟩ := id Py
  refine at' (ce' := 2) (sl' := 8) (pc' := 96) (L' := #[.val (.ref a), .val (.ref a189), .val (.int (1 : Int32))]) (S' := [(.ref a189)]) rfl rfl rfl rfl rfl ?_
  refine Ow.pop (pc' := 97) d_prog_8_method_9_96 rfl rfl ?_
  refine iinc (pc' := 100) (v := (2 : Int32)) (L' := #[.val (.ref a), .val (.ref a189), .val (.int (2 : Int32))]) d_prog_8_method_9_97 rfl rfl rfl rfl ?_
  refine goto (pc' := 65) d_prog_8_method_9_100 (by decide) rfl ?_
  refine iloadN (pc' := 66) d_prog_8_method_9_65 rfl rfl ?_
  refine aloadN (pc' := 67) d_prog_8_method_9_66 rfl rfl rfl ?_
  refine getfield (i := 136) (pc' := 70) d_prog_8_method_9_67 rfl Fn rfl ?_
  refine icmpT (pc' := 103) d_prog_8_method_9_70 (by decide : ¬ ((2 : Int32) < (2 : Int32))) (by decide) rfl ?_
  refine aloadN (pc' := 104) d_prog_8_method_9_103 rfl rfl rfl ?_
  refine call (i := 233) (i2 := 33) (Wd := 0) (pc' := 107) (kVirt (i := 229) (i2 := 230) (i3 := 232) (i4 := 231) (C := "gatelayer/PathSegments") (a := a) (argsL := []) (S' := []) (Wd := 0) d_prog_8_method_9_104 rfl rfl rfl rfl Ea (by decide) rfl pd_7 rfl rfl (Nat.le_of_ble_eq_true rfl)) (rm_tr l Z a0 hw hEL n0 a bd x kbd d 2 vs cs f2 _ hB Py Sy hn hf2 h1 hc) rfl rfl (by simp) (by decide) (by decide) (by decide) (by decide) rfl fun v_ h229 P230 sz231 => ?_
  obtain ⟨rfl, e232⟩ := P230
  rw [e232]
  refine at' (ce' := 2) (sl' := 8) (pc' := 107) (L' := #[.val (.ref a), .val (.ref a189), .val (.int (2 : Int32))]) (S' := [(.int (0 : Int32))]) rfl rfl rfl rfl rfl ?_
  refine ifT (pc' := 117) d_prog_8_method_9_107 (rfl : (0 : Int32) = (0 : Int32)) (by decide) rfl ?_
  refine aloadN (pc' := 118) d_prog_8_method_9_117 rfl rfl rfl ?_
  refine call (i := 252) (i2 := 145) (Wd := 0) (pc' := 121) (kVirt (i := 248) (i2 := 249) (i3 := 251) (i4 := 250) (C := "java/lang/StringBuilder") (a := a189) (argsL := []) (S' := []) (Wd := 0) d_prog_8_method_9_118 rfl rfl rfl rfl (Hb1.1) (by decide) rfl pd_23 rfl rfl (Nat.le_of_ble_eq_true rfl)) (rm_ts l Z a0 hw hEL n0 a189 b _ hB Hb1) rfl rfl (by simp) (by decide) (by decide) (by decide) (by decide) rfl fun v_ h233 P234 sz235 => ?_
  obtain ⟨r, ds, rfl, X9, S9, hd9⟩ := P234
  replace K := K.ext X9
  refine at' (ce' := 4) (sl' := 16) (pc' := 121) (L' := #[.val (.ref a), .val (.ref a189), .val (.int (2 : Int32))]) (S' := [(.ref r)]) rfl rfl rfl rfl rfl ?_
  exact retA d_prog_8_method_9_121 rfl rfl rfl (by decide) (by decide) ⟨r, ds, rfl, keepExt K, S9, hd9⟩
set_option maxRecDepth 65536 in
set_option maxHeartbeats 40000000 in
theorem rm_sl (l : Launch) (Z : State) (a0 : Array Value) (hw : ∀ d ∈ tables_1, d.before a0 Z = true) (hEL : EW Z a0 consts_1) (n0 : Nat) (x : Int32) (h : Heap)   :
    Met l false Z consts_1 n0 (⟨"gatelayer/PathSegmentsLengthPinLaw", "slashless", "(I)C"⟩ : MethodName) method_2_code 2 (some .char) ({ frames := 0, cells := 0, slots := 0, locals := 0 } : Room) [] #[(.int x)] [] h (fun v h' => ∃ c : Int32, v = some (.int c) ∧ ok c ∧ ¬ c = 47 ∧ h' = h) := by
  refine Met.of_body (a0 := a0) (L0 := #[.val (.int x), .unset]) (plainFor_of_name (by first | (simp [plainName, overriddenIn]; done) | decide +kernel)) (fun m => by first | rfl | (simp [entryFrame, mkF, argsToLocals, Value.category]; done)) hw hEL (by decide) ?_
  refine iloadN (pc' := 1) d_method_2_0 rfl rfl ?_
  refine sipush (pc' := 4) (v := (255 : Int32)) d_method_2_1 rfl rfl ?_
  refine iand (pc' := 5) d_method_2_4 rfl ?_
  refine i2c (pc' := 6) d_method_2_5 rfl ?_
  obtain ⟨c, hc, ec⟩ : ∃ c : Int32, ok c ∧ ((x &&& (255 : Int32)).toUInt32.toUInt16.toUInt32.toInt32) = c := ⟨_, (by simp only [i2c_mask]; exact own_ok _), rfl⟩
  rw [ec]
  refine istoreN (pc' := 7) (L' := #[.val (.int x), .val (.int c)]) d_method_2_6 rfl rfl ?_
  refine iloadN (pc' := 8) d_method_2_7 rfl rfl ?_
  refine bipush (pc' := 10) (v := (47 : Int32)) d_method_2_8 rfl rfl ?_
  refine icmp (pc' := 16) (pcF := 13) d_method_2_10 (by decide) rfl rfl (fun (q0 : ¬ (c = (47 : Int32))) => ?_) (fun (q0 : c = (47 : Int32)) => ?_)
  · skip
    refine iloadN (pc' := 17) d_method_2_16 rfl rfl ?_
    exact retI d_method_2_17 rfl (Or.inr (Or.inr (Or.inr (Or.inl rfl)))) (congrArg Value.int (own_nar hc)) (by decide) (by decide) ⟨c, rfl, hc, q0, rfl⟩
  · skip
    refine bipush (pc' := 15) (v := (120 : Int32)) d_method_2_13 rfl rfl ?_
    exact retI d_method_2_15 rfl (Or.inr (Or.inr (Or.inr (Or.inl rfl)))) rfl (by decide) (by decide) ⟨120, rfl, ok_of (by decide) (by decide), by decide, rfl⟩
set_option maxRecDepth 65536 in
set_option maxHeartbeats 40000000 in
theorem rm_at (l : Launch) (Z : State) (a0 : Array Value) (hw : ∀ d ∈ tables_1, d.before a0 Z = true) (hEL : EW Z a0 consts_1) (n0 : Nat) (i r s p a b q : Int32) (h : Heap)  (hp : ok p) (ha : ok a) (hb : ok b) (hq : ok q) :
    Met l false Z consts_1 n0 (⟨"gatelayer/PathSegmentsLengthPinLaw", "at", "(IIICCCC)C"⟩ : MethodName) method_3_code 7 (some .char) ({ frames := 0, cells := 0, slots := 0, locals := 0 } : Room) [] #[(.int i), (.int r), (.int s), (.int p), (.int a), (.int b), (.int q)] [] h (fun v h' => v = some (.int (own_at i r s p a b q)) ∧ h' = h) := by
  refine Met.of_body (a0 := a0) (L0 := #[.val (.int i), .val (.int r), .val (.int s), .val (.int p), .val (.int a), .val (.int b), .val (.int q)]) (plainFor_of_name (by first | (simp [plainName, overriddenIn]; done) | decide +kernel)) (fun m => by first | rfl | (simp [entryFrame, mkF, argsToLocals, Value.category]; done)) hw hEL (by decide) ?_
  refine iloadN (pc' := 1) d_method_3_0 rfl rfl ?_
  refine ifc (pc' := 6) (pcF := 4) d_method_3_1 (by decide) rfl rfl (fun (q0 : ¬ (i = (0 : Int32))) => ?_) (fun (q0 : i = (0 : Int32)) => ?_)
  · skip
    refine iloadN (pc' := 7) d_method_3_6 rfl rfl ?_
    refine iloadN (pc' := 8) d_method_3_7 rfl rfl ?_
    refine icmp (pc' := 14) (pcF := 11) d_method_3_8 (by decide) rfl rfl (fun (q1 : r < i) => ?_) (fun (q1 : ¬ (r < i)) => ?_)
    · skip
      refine iloadN (pc' := 15) d_method_3_14 rfl rfl ?_
      refine iconst (pc' := 16) (v := (1 : Int32)) d_method_3_15 rfl rfl ?_
      refine iloadN (pc' := 17) d_method_3_16 rfl rfl ?_
      refine iadd (pc' := 18) d_method_3_17 rfl ?_
      refine icmp (pc' := 24) (pcF := 21) d_method_3_18 (by decide) rfl rfl (fun (q2 : ¬ (i = ((1 : Int32) + r))) => ?_) (fun (q2 : i = ((1 : Int32) + r)) => ?_)
      · skip
        refine iloadN (pc' := 25) d_method_3_24 rfl rfl ?_
        refine iconst (pc' := 26) (v := (1 : Int32)) d_method_3_25 rfl rfl ?_
        refine iloadN (pc' := 27) d_method_3_26 rfl rfl ?_
        refine iadd (pc' := 28) d_method_3_27 rfl ?_
        refine iloadN (pc' := 29) d_method_3_28 rfl rfl ?_
        refine iadd (pc' := 30) d_method_3_29 rfl ?_
        refine icmp (pc' := 36) (pcF := 33) d_method_3_30 (by decide) rfl rfl (fun (q3 : (((1 : Int32) + r) + s) < i) => ?_) (fun (q3 : ¬ ((((1 : Int32) + r) + s) < i)) => ?_)
        · skip
          refine iloadN (pc' := 37) d_method_3_36 rfl rfl ?_
          refine iconst (pc' := 38) (v := (2 : Int32)) d_method_3_37 rfl rfl ?_
          refine iloadN (pc' := 39) d_method_3_38 rfl rfl ?_
          refine iadd (pc' := 40) d_method_3_39 rfl ?_
          refine iloadN (pc' := 41) d_method_3_40 rfl rfl ?_
          refine iadd (pc' := 42) d_method_3_41 rfl ?_
          refine icmp (pc' := 48) (pcF := 45) d_method_3_42 (by decide) rfl rfl (fun (q4 : ¬ (i = (((2 : Int32) + r) + s))) => ?_) (fun (q4 : i = (((2 : Int32) + r) + s)) => ?_)
          · skip
            refine iload (pc' := 50) d_method_3_48 rfl rfl ?_
            exact retI d_method_3_50 rfl (Or.inr (Or.inr (Or.inr (Or.inl rfl)))) (congrArg Value.int (own_nar hq)) (by decide) (by decide) ⟨by rw [own_at, if_neg q0, if_neg (not_not_intro q1), if_neg q2, if_neg (not_not_intro q3), if_neg q4], rfl⟩
          · skip
            refine iload (pc' := 47) d_method_3_45 rfl rfl ?_
            exact retI d_method_3_47 rfl (Or.inr (Or.inr (Or.inr (Or.inl rfl)))) (congrArg Value.int (own_nar hb)) (by decide) (by decide) ⟨by rw [own_at, if_neg q0, if_neg (not_not_intro q1), if_neg q2, if_neg (not_not_intro q3), if_pos q4], rfl⟩
        · skip
          refine bipush (pc' := 35) (v := (47 : Int32)) d_method_3_33 rfl rfl ?_
          exact retI d_method_3_35 rfl (Or.inr (Or.inr (Or.inr (Or.inl rfl)))) rfl (by decide) (by decide) ⟨by rw [own_at, if_neg q0, if_neg (not_not_intro q1), if_neg q2, if_pos q3], rfl⟩
      · skip
        refine iload (pc' := 23) d_method_3_21 rfl rfl ?_
        exact retI d_method_3_23 rfl (Or.inr (Or.inr (Or.inr (Or.inl rfl)))) (congrArg Value.int (own_nar ha)) (by decide) (by decide) ⟨by rw [own_at, if_neg q0, if_neg (not_not_intro q1), if_pos q2], rfl⟩
    · skip
      refine bipush (pc' := 13) (v := (47 : Int32)) d_method_3_11 rfl rfl ?_
      exact retI d_method_3_13 rfl (Or.inr (Or.inr (Or.inr (Or.inl rfl)))) rfl (by decide) (by decide) ⟨by rw [own_at, if_neg q0, if_pos q1], rfl⟩
  · skip
    refine iloadN (pc' := 5) d_method_3_4 rfl rfl ?_
    exact retI d_method_3_5 rfl (Or.inr (Or.inr (Or.inr (Or.inl rfl)))) (congrArg Value.int (own_nar hp)) (by decide) (by decide) ⟨by rw [own_at, if_pos q0], rfl⟩
set_option maxRecDepth 65536 in
set_option maxHeartbeats 40000000 in
theorem law_met (l : Launch) (Z : State) (a0 : Array Value) (hw : ∀ d ∈ tables_1, d.before a0 Z = true) (hEL : EW Z a0 consts_1) (n0 : Nat) (i0 i1 i2 i3 i4 : Int32) (h : Heap)  (hB : Sets Z) (hI : Iof Z) :
    Met l false Z consts_1 n0 x code maxLocals ret room_1 tables_1 #[(.int i0), (.int i1), (.int i2), (.int i3), (.int i4)] [] h (fun v h' => v = some (.int 1)) := by
  refine Met.of_body (a0 := a0) (L0 := #[.val (.int i0), .val (.int i1), .val (.int i2), .val (.int i3), .val (.int i4), .unset, .unset, .unset, .unset, .unset, .unset, .unset, .unset, .unset, .unset, .unset, .unset, .unset, .unset, .unset, .unset, .unset]) (plainFor_of_name (by first | (simp [plainName, overriddenIn]; done) | decide +kernel)) (fun m => by first | (simp [entryFrame, mkF, argsToLocals, Value.category, maxLocals]; done) | rfl) hw hEL (by decide) ?_
  refine iconst (pc' := 1) (v := (4 : Int32)) at_0 rfl rfl ?_
  refine newarray (i := 0) (cap := 4) (ty := .char) (pc' := 3) at_1 rfl rfl (by decide) (by decide) (by decide) (by decide) (by decide) rfl fun h236 a237 kc241 g238 E239 V240 => ?_
  replace V240 : Arv Z h236 a237 kc241 .char (4 : Int32) [(.int (0 : Int32)), (.int (0 : Int32)), (.int (0 : Int32)), (.int (0 : Int32))] (.int (0 : Int32)) := V240.pad (pad_rep [] (.int (0 : Int32)) 4)
  refine astore (pc' := 5) (L' := #[.val (.int i0), .val (.int i1), .val (.int i2), .val (.int i3), .val (.int i4), .val (.ref a237), .unset, .unset, .unset, .unset, .unset, .unset, .unset, .unset, .unset, .unset, .unset, .unset, .unset, .unset, .unset, .unset]) at_3 rfl rfl rfl ?_
  refine aload (pc' := 7) at_5 rfl rfl rfl ?_
  refine iconst (pc' := 8) (v := (0 : Int32)) at_7 rfl rfl ?_
  refine iloadN (pc' := 9) at_8 rfl rfl ?_
  refine sipush (pc' := 12) (v := (255 : Int32)) at_9 rfl rfl ?_
  refine iand (pc' := 13) at_12 rfl ?_
  refine i2c (pc' := 14) at_13 rfl ?_
  refine castore (pc' := 15) at_14 V240 ⟨by decide, by decide⟩ (by simp) (Nat.le_of_ble_eq_true rfl) rfl fun h242 W243 V244 => ?_
  replace V240 : Arv Z h242 a237 kc241 .char (4 : Int32) [(.int (nar .char ((i0 &&& (255 : Int32)).toUInt32.toUInt16.toUInt32.toInt32))), (.int (0 : Int32)), (.int (0 : Int32)), (.int (0 : Int32))] (.int (0 : Int32)) := V244
  refine aload (pc' := 17) at_15 rfl rfl rfl ?_
  refine iconst (pc' := 18) (v := (1 : Int32)) at_17 rfl rfl ?_
  refine iloadN (pc' := 19) at_18 rfl rfl ?_
  refine bipush (pc' := 21) (v := (8 : Int32)) at_19 rfl rfl ?_
  refine iushr (pc' := 22) at_21 rfl ?_
  refine sipush (pc' := 25) (v := (255 : Int32)) at_22 rfl rfl ?_
  refine iand (pc' := 26) at_25 rfl ?_
  refine i2c (pc' := 27) at_26 rfl ?_
  refine castore (pc' := 28) at_27 V240 ⟨by decide, by decide⟩ (by simp) (Nat.le_of_ble_eq_true rfl) rfl fun h245 W246 V247 => ?_
  replace V240 : Arv Z h245 a237 kc241 .char (4 : Int32) [(.int (nar .char ((i0 &&& (255 : Int32)).toUInt32.toUInt16.toUInt32.toInt32))), (.int (nar .char ((((i0.toUInt32 >>> ((8 : Int32) &&& 31).toUInt32).toInt32) &&& (255 : Int32)).toUInt32.toUInt16.toUInt32.toInt32))), (.int (0 : Int32)), (.int (0 : Int32))] (.int (0 : Int32)) := V247
  refine aload (pc' := 30) at_28 rfl rfl rfl ?_
  refine iconst (pc' := 31) (v := (2 : Int32)) at_30 rfl rfl ?_
  refine iloadN (pc' := 32) at_31 rfl rfl ?_
  refine bipush (pc' := 34) (v := (16 : Int32)) at_32 rfl rfl ?_
  refine iushr (pc' := 35) at_34 rfl ?_
  refine sipush (pc' := 38) (v := (255 : Int32)) at_35 rfl rfl ?_
  refine iand (pc' := 39) at_38 rfl ?_
  refine i2c (pc' := 40) at_39 rfl ?_
  refine castore (pc' := 41) at_40 V240 ⟨by decide, by decide⟩ (by simp) (Nat.le_of_ble_eq_true rfl) rfl fun h248 W249 V250 => ?_
  replace V240 : Arv Z h248 a237 kc241 .char (4 : Int32) [(.int (nar .char ((i0 &&& (255 : Int32)).toUInt32.toUInt16.toUInt32.toInt32))), (.int (nar .char ((((i0.toUInt32 >>> ((8 : Int32) &&& 31).toUInt32).toInt32) &&& (255 : Int32)).toUInt32.toUInt16.toUInt32.toInt32))), (.int (nar .char ((((i0.toUInt32 >>> ((16 : Int32) &&& 31).toUInt32).toInt32) &&& (255 : Int32)).toUInt32.toUInt16.toUInt32.toInt32))), (.int (0 : Int32))] (.int (0 : Int32)) := V250
  refine aload (pc' := 43) at_41 rfl rfl rfl ?_
  refine iconst (pc' := 44) (v := (3 : Int32)) at_43 rfl rfl ?_
  refine iloadN (pc' := 45) at_44 rfl rfl ?_
  refine bipush (pc' := 47) (v := (24 : Int32)) at_45 rfl rfl ?_
  refine iushr (pc' := 48) at_47 rfl ?_
  refine sipush (pc' := 51) (v := (255 : Int32)) at_48 rfl rfl ?_
  refine iand (pc' := 52) at_51 rfl ?_
  refine i2c (pc' := 53) at_52 rfl ?_
  refine castore (pc' := 54) at_53 V240 ⟨by decide, by decide⟩ (by simp) (Nat.le_of_ble_eq_true rfl) rfl fun h251 W252 V253 => ?_
  replace V240 : Arv Z h251 a237 kc241 .char (4 : Int32) [(.int (nar .char ((i0 &&& (255 : Int32)).toUInt32.toUInt16.toUInt32.toInt32))), (.int (nar .char ((((i0.toUInt32 >>> ((8 : Int32) &&& 31).toUInt32).toInt32) &&& (255 : Int32)).toUInt32.toUInt16.toUInt32.toInt32))), (.int (nar .char ((((i0.toUInt32 >>> ((16 : Int32) &&& 31).toUInt32).toInt32) &&& (255 : Int32)).toUInt32.toUInt16.toUInt32.toInt32))), (.int (nar .char ((((i0.toUInt32 >>> ((24 : Int32) &&& 31).toUInt32).toInt32) &&& (255 : Int32)).toUInt32.toUInt16.toUInt32.toInt32)))] (.int (0 : Int32)) := V253
  refine new (i := 1) (i2 := 2) (i3 := 3) (pc' := 57) at_54 rfl rfl rfl (by decide) (by decide) rfl fun h254 a255 g256 E257 A258 D259 => ?_
  have ne_a237_a255 : a237 ≠ a255 := Nat.ne_of_lt (by rw [g256]; exact V240.lt)
  replace V240 := V240.ext E257
  have F_coder_a255 : Fld Z h254 a255 "java/lang/String" "coder" "B" (.int (0 : Int32)) := D259 (Or.inr (hw _ (List.mem_of_getElem? (i := 27) rfl))) (ty := .byte) (by decide)
  have F_value_a255 : Fld Z h254 a255 "java/lang/String" "value" "[B" .null := D259 (Or.inr (hw _ (List.mem_of_getElem? (i := 29) rfl))) (ty := (.array .byte)) (by decide)
  refine dup (pc' := 58) at_57 rfl rfl ?_
  refine aload (pc' := 60) at_58 rfl rfl rfl ?_
  have q1 := V240
  simp only [i2c_mask, own_nm] at q1
  obtain ⟨cs1, hl1, hp1, qq1⟩ : ∃ cs : List Int32, cs.length = 4 ∧ (∀ c ∈ cs, ¬ c < 0 ∧ ¬ (255 : Int32) < c) ∧ Arv Z h254 a237 kc241 .char (4 : Int32) (cs.map Value.int) (.int (0 : Int32)) := ⟨[i0 &&& 255, (i0.toUInt32 >>> ((8 : Int32) &&& 31).toUInt32).toInt32 &&& 255, (i0.toUInt32 >>> ((16 : Int32) &&& 31).toUInt32).toInt32 &&& 255, (i0.toUInt32 >>> ((24 : Int32) &&& 31).toUInt32).toInt32 &&& 255], rfl, (by intro c hc; simp only [List.mem_cons, List.not_mem_nil, or_false] at hc; rcases hc with rfl | rfl | rfl | rfl <;> exact own_ok _), q1⟩
  refine strNew (i := 2) (Wd := 1) (n := 4) (cs := cs1) (pc' := 63) hB (by decide +kernel) rfl (kInit (i := 4) (i2 := 5) (i4 := 6) (a := a255) (argsL := [(.ref a237)]) (S' := [(.ref a255)]) (Wd := 1) at_60 rfl rfl rfl rfl (by decide) rfl pd_24 rfl rfl (Nat.le_of_ble_eq_true rfl)) A258 F_value_a255 F_coder_a255 qq1 hl1 rfl (by decide) (by decide) hp1 (by simp) (by decide) (by decide) (by decide) (by decide) rfl fun hs1 Ks1 Ss1 => ?_
  refine at' (ce' := 3) (sl' := 12) (pc' := 63) (L' := #[.val (.int i0), .val (.int i1), .val (.int i2), .val (.int i3), .val (.int i4), .val (.ref a237), .unset, .unset, .unset, .unset, .unset, .unset, .unset, .unset, .unset, .unset, .unset, .unset, .unset, .unset, .unset, .unset]) (S' := [(.ref a255)]) rfl rfl rfl rfl rfl ?_
  refine astore (pc' := 65) (L' := #[.val (.int i0), .val (.int i1), .val (.int i2), .val (.int i3), .val (.int i4), .val (.ref a237), .val (.ref a255), .unset, .unset, .unset, .unset, .unset, .unset, .unset, .unset, .unset, .unset, .unset, .unset, .unset, .unset, .unset]) at_63 rfl rfl rfl ?_
  refine iloadN (pc' := 66) at_65 rfl rfl ?_
  refine ldcInt (i := 30) (v := (2147483647 : Int32)) (pc' := 68) at_66 rfl rfl ?_
  refine iand (pc' := 69) at_68 rfl ?_
  refine iconst (pc' := 70) (v := (5 : Int32)) at_69 rfl rfl ?_
  refine irem (pc' := 71) at_70 (by decide) rfl ?_
  obtain ⟨f1, hf1, ef1⟩ := own_rem (x := (i2 &&& (2147483647 : Int32))) (d := (5 : Int32)) (k := 4) (c_and _ _ (by decide)).1 (by decide) rfl
  rw [ef1]
  refine istore (pc' := 73) (L' := #[.val (.int i0), .val (.int i1), .val (.int i2), .val (.int i3), .val (.int i4), .val (.ref a237), .val (.ref a255), .val (.int (Int32.ofNat f1)), .unset, .unset, .unset, .unset, .unset, .unset, .unset, .unset, .unset, .unset, .unset, .unset, .unset, .unset]) at_71 rfl rfl ?_
  refine iload (pc' := 75) at_73 rfl rfl ?_
  refine iloadN (pc' := 76) at_75 rfl rfl ?_
  refine ldcInt (i := 30) (v := (2147483647 : Int32)) (pc' := 78) at_76 rfl rfl ?_
  refine iand (pc' := 79) at_78 rfl ?_
  refine iconst (pc' := 80) (v := (5 : Int32)) at_79 rfl rfl ?_
  refine iload (pc' := 82) at_80 rfl rfl ?_
  refine isub (pc' := 83) at_82 rfl ?_
  refine irem (pc' := 84) at_83 (by rw [own_5 _ (by omega)]; exact own_z _ (by omega) (by omega)) rfl ?_
  obtain ⟨k1, hk1, ek1⟩ := own_rem (x := (i3 &&& (2147483647 : Int32))) (d := ((5 : Int32) - (Int32.ofNat f1))) (k := 4 - f1) (c_and _ _ (by decide)).1 (by omega) (own_5 _ (by omega))
  rw [ek1]
  refine iadd (pc' := 85) at_84 rfl ?_
  rw [own_ofn]
  have K : Keep hs1 hs1 [] := Keep.refl _ _
  refine istore (pc' := 87) (L' := #[.val (.int i0), .val (.int i1), .val (.int i2), .val (.int i3), .val (.int i4), .val (.ref a237), .val (.ref a255), .val (.int (Int32.ofNat f1)), .val (.int (Int32.ofNat (f1 + k1))), .unset, .unset, .unset, .unset, .unset, .unset, .unset, .unset, .unset, .unset, .unset, .unset, .unset]) at_85 rfl rfl ?_
  refine new (i := 31) (i2 := 32) (i3 := 33) (pc' := 90) at_87 rfl rfl rfl (by decide) (by decide) rfl fun h260 a261 g262 E263 A264 D265 => ?_
  have sz_a261 : hs1.size ≤ a261 := by rw [g262]; exact K.1
  replace K := K.ext E263
  have F_bounds_a261 : Fld Z h260 a261 "gatelayer/PathSegments" "bounds" "[I" .null := D265 (Or.inl (hw _ (List.mem_of_getElem? (i := 40) rfl))) (ty := (.array .int)) (by decide)
  have F_text_a261 : Fld Z h260 a261 "gatelayer/PathSegments" "text" "Ljava/lang/String;" .null := D265 (Or.inr (hw _ (List.mem_of_getElem? (i := 42) rfl))) (ty := (.object "java/lang/String")) (by decide)
  have F_from_a261 : Fld Z h260 a261 "gatelayer/PathSegments" "from" "I" (.int (0 : Int32)) := D265 (Or.inr (hw _ (List.mem_of_getElem? (i := 44) rfl))) (ty := .int) (by decide)
  have F_to_a261 : Fld Z h260 a261 "gatelayer/PathSegments" "to" "I" (.int (0 : Int32)) := D265 (Or.inl (hw _ (List.mem_of_getElem? (i := 46) rfl))) (ty := .int) (by decide)
  have F_dropped_a261 : Fld Z h260 a261 "gatelayer/PathSegments" "dropped" "I" (.int (0 : Int32)) := D265 (Or.inl (hw _ (List.mem_of_getElem? (i := 58) rfl))) (ty := .int) (by decide)
  have F_count_a261 : Fld Z h260 a261 "gatelayer/PathSegments" "count" "I" (.int (0 : Int32)) := D265 (Or.inl (hw _ (List.mem_of_getElem? (i := 137) rfl))) (ty := .int) (by decide)
  refine dup (pc' := 91) at_90 rfl rfl ?_
  refine aload (pc' := 93) at_91 rfl rfl rfl ?_
  refine iload (pc' := 95) at_93 rfl rfl ?_
  have ha_1 := A264.lt
  refine call (i := 36) (i2 := 33) (Wd := 1) (pc' := 98) (kInit (i := 34) (i2 := 35) (i4 := 36) (a := a261) (argsL := [(.ref a255), (.int (Int32.ofNat f1))]) (S' := [(.ref a261)]) (Wd := 1) at_95 rfl rfl rfl rfl (by decide) rfl pd_25 rfl rfl (Nat.le_of_ble_eq_true rfl)) (rm_ps l Z a0 hw hEL n0 a261 a255 (Int32.ofNat f1) _ A264 F_bounds_a261 F_text_a261 F_from_a261 F_to_a261 F_dropped_a261 F_count_a261) rfl rfl (by simp) (by decide) (by decide) (by decide) (by decide) rfl fun v_ h266 P267 sz268 => ?_
  obtain ⟨bd1, kbd1, rfl, Kn1, hb1, P1⟩ := P267
  have sz_bd1 : hs1.size ≤ bd1 := Nat.le_trans K.1 hb1
  replace K := K.trans Kn1 (allS (Or.inr sz_a261) all0)
  refine at' (ce' := 5) (sl' := 34) (pc' := 98) (L' := #[.val (.int i0), .val (.int i1), .val (.int i2), .val (.int i3), .val (.int i4), .val (.ref a237), .val (.ref a255), .val (.int (Int32.ofNat f1)), .val (.int (Int32.ofNat (f1 + k1))), .unset, .unset, .unset, .unset, .unset, .unset, .unset, .unset, .unset, .unset, .unset, .unset, .unset]) (S' := [(.ref a261)]) rfl rfl rfl rfl rfl ?_
  refine iload (pc' := 100) at_98 rfl rfl ?_
  refine call (i := 51) (i2 := 33) (Wd := 0) (pc' := 103) (kVirt (i := 47) (i2 := 48) (i3 := 50) (i4 := 49) (C := "gatelayer/PathSegments") (a := a261) (argsL := [(.int (Int32.ofNat (f1 + k1)))]) (S' := []) (Wd := 0) at_100 rfl rfl rfl rfl (P1.1) (by decide) rfl pd_26 rfl rfl (Nat.le_of_ble_eq_true rfl)) (rm_ea1 l Z a0 hw hEL n0 a261 bd1 a255 kbd1 (Int32.ofNat f1) (Int32.ofNat f1) 0 0 _ (Int32.ofNat (f1 + k1)) _ P1) rfl rfl (by simp) (by decide) (by decide) (by decide) (by decide) rfl fun v_ h269 P270 sz271 => ?_
  obtain ⟨rfl, Ke1, Pe1⟩ := P270
  replace K := K.trans Ke1 (allS (Or.inr sz_a261) all0)
  refine at' (ce' := 5) (sl' := 34) (pc' := 103) (L' := #[.val (.int i0), .val (.int i1), .val (.int i2), .val (.int i3), .val (.int i4), .val (.ref a237), .val (.ref a255), .val (.int (Int32.ofNat f1)), .val (.int (Int32.ofNat (f1 + k1))), .unset, .unset, .unset, .unset, .unset, .unset, .unset, .unset, .unset, .unset, .unset, .unset, .unset]) (S' := [(.ref a261)]) rfl rfl rfl rfl rfl ?_
  refine astore (pc' := 105) (L' := #[.val (.int i0), .val (.int i1), .val (.int i2), .val (.int i3), .val (.int i4), .val (.ref a237), .val (.ref a255), .val (.int (Int32.ofNat f1)), .val (.int (Int32.ofNat (f1 + k1))), .val (.ref a261), .unset, .unset, .unset, .unset, .unset, .unset, .unset, .unset, .unset, .unset, .unset, .unset]) at_103 rfl rfl rfl ?_
  refine aload (pc' := 107) at_105 rfl rfl rfl ?_
  have ek : (Int32.ofNat (f1 + k1)) - (Int32.ofNat f1) = (Int32.ofNat k1) := by rw [own_sb _ (by omega) _ (by omega) (by omega), Nat.add_sub_cancel_left]
  refine call (i := 63) (i2 := 33) (Wd := 0) (pc' := 110) (kVirt (i := 59) (i2 := 60) (i3 := 62) (i4 := 61) (C := "gatelayer/PathSegments") (a := a261) (argsL := []) (S' := []) (Wd := 0) at_107 rfl rfl rfl rfl (Pe1.1) (by decide) rfl pd_5 rfl rfl (Nat.le_of_ble_eq_true rfl)) (rm_len l Z a0 hw hEL n0 a261 bd1 a255 kbd1 (Int32.ofNat f1) (Int32.ofNat (f1 + k1)) 0 0 _ (Int32.ofNat k1) _ Pe1 (by rw [ek]; exact Int32.sub_zero _)) rfl rfl (by simp) (by decide) (by decide) (by decide) (by decide) rfl fun v_ h272 P273 sz274 => ?_
  obtain ⟨rfl, e275⟩ := P273
  rw [e275]
  refine at' (ce' := 5) (sl' := 34) (pc' := 110) (L' := #[.val (.int i0), .val (.int i1), .val (.int i2), .val (.int i3), .val (.int i4), .val (.ref a237), .val (.ref a255), .val (.int (Int32.ofNat f1)), .val (.int (Int32.ofNat (f1 + k1))), .val (.ref a261), .unset, .unset, .unset, .unset, .unset, .unset, .unset, .unset, .unset, .unset, .unset, .unset]) (S' := [(.int (Int32.ofNat k1))]) rfl rfl rfl rfl rfl ?_
  refine istore (pc' := 112) (L' := #[.val (.int i0), .val (.int i1), .val (.int i2), .val (.int i3), .val (.int i4), .val (.ref a237), .val (.ref a255), .val (.int (Int32.ofNat f1)), .val (.int (Int32.ofNat (f1 + k1))), .val (.ref a261), .val (.int (Int32.ofNat k1)), .unset, .unset, .unset, .unset, .unset, .unset, .unset, .unset, .unset, .unset, .unset]) at_110 rfl rfl ?_
  refine iload (pc' := 114) at_112 rfl rfl ?_
  refine iload (pc' := 116) at_114 rfl rfl ?_
  refine iload (pc' := 118) at_116 rfl rfl ?_
  refine isub (pc' := 119) at_118 rfl ?_
  rw [ek]
  refine icmpF (pc' := 122) at_119 (rfl : (Int32.ofNat k1) = (Int32.ofNat k1)) rfl ?_
  refine iload (pc' := 124) at_122 rfl rfl ?_
  refine aload (pc' := 126) at_124 rfl rfl rfl ?_
  have Sy1 := Ss1.ext (keepExt K)
  refine call (i := 68) (i2 := 33) (Wd := 1) (pc' := 129) (kVirt (i := 64) (i2 := 65) (i3 := 67) (i4 := 66) (C := "gatelayer/PathSegments") (a := a261) (argsL := []) (S' := [(.int (Int32.ofNat k1))]) (Wd := 1) at_126 rfl rfl rfl rfl (Pe1.1) (by decide) rfl pd_23 rfl rfl (Nat.le_of_ble_eq_true rfl)) (rm_p1 l Z a0 hw hEL n0 a261 bd1 a255 kbd1 0 _ cs1 f1 k1 _ hB Pe1 Sy1 (by omega) (by omega)) rfl rfl (by simp) (by decide) (by decide) (by decide) (by decide) rfl fun v_ h276 P277 sz278 => ?_
  obtain ⟨r1_, rfl, Xr1, Sr1⟩ := P277
  refine at' (ce' := 7) (sl' := 45) (pc' := 129) (L' := #[.val (.int i0), .val (.int i1), .val (.int i2), .val (.int i3), .val (.int i4), .val (.ref a237), .val (.ref a255), .val (.int (Int32.ofNat f1)), .val (.int (Int32.ofNat (f1 + k1))), .val (.ref a261), .val (.int (Int32.ofNat k1)), .unset, .unset, .unset, .unset, .unset, .unset, .unset, .unset, .unset, .unset, .unset]) (S' := [(.ref r1_), (.int (Int32.ofNat k1))]) rfl rfl rfl rfl rfl ?_
  refine strLen (i := 2) (Wd := 1) (cs := ((cs1.drop f1).take k1)) (pc' := 132) hB (by decide +kernel) rfl (kVirt (i := 123) (i2 := 75) (i3 := 77) (i4 := 76) (C := "java/lang/String") (a := r1_) (argsL := []) (S' := [(.int (Int32.ofNat k1))]) (Wd := 1) at_129 rfl rfl rfl rfl Sr1.exa (by decide) rfl pd_5 rfl rfl (Nat.le_of_ble_eq_true rfl)) Sr1 (by decide) (by decide) (by decide) (by decide) rfl ?_
  rw [show ((cs1.drop f1).take k1).length = k1 from sub_len (by omega)]
  refine at' (ce' := 7) (sl' := 45) (pc' := 132) (L' := #[.val (.int i0), .val (.int i1), .val (.int i2), .val (.int i3), .val (.int i4), .val (.ref a237), .val (.ref a255), .val (.int (Int32.ofNat f1)), .val (.int (Int32.ofNat (f1 + k1))), .val (.ref a261), .val (.int (Int32.ofNat k1)), .unset, .unset, .unset, .unset, .unset, .unset, .unset, .unset, .unset, .unset, .unset]) (S' := [(.int (Int32.ofNat k1)), (.int (Int32.ofNat k1))]) rfl rfl rfl rfl rfl ?_
  refine icmpF (pc' := 135) at_132 (rfl : (Int32.ofNat k1) = (Int32.ofNat k1)) rfl ?_
  refine iconst (pc' := 136) (v := (1 : Int32)) at_135 rfl rfl ?_
  refine goto (pc' := 140) at_136 (by decide) rfl ?_
  refine istore (pc' := 142) (L' := #[.val (.int i0), .val (.int i1), .val (.int i2), .val (.int i3), .val (.int i4), .val (.ref a237), .val (.ref a255), .val (.int (Int32.ofNat f1)), .val (.int (Int32.ofNat (f1 + k1))), .val (.ref a261), .val (.int (Int32.ofNat k1)), .val (.int (1 : Int32)), .unset, .unset, .unset, .unset, .unset, .unset, .unset, .unset, .unset, .unset]) at_140 rfl rfl ?_
  refine iconst (pc' := 143) (v := (1 : Int32)) at_142 rfl rfl ?_
  refine iload (pc' := 145) at_143 rfl rfl ?_
  refine iconst (pc' := 146) (v := (1 : Int32)) at_145 rfl rfl ?_
  refine iand (pc' := 147) at_146 rfl ?_
  refine iadd (pc' := 148) at_147 rfl ?_
  obtain ⟨r1, hr1, er1⟩ : ∃ r : Int32, (r = 1 ∨ r = 2) ∧ ((1 : Int32) + (i4 &&& (1 : Int32))) = r := ⟨_, own_b1 _, rfl⟩
  rw [er1]
  refine istore (pc' := 150) (L' := #[.val (.int i0), .val (.int i1), .val (.int i2), .val (.int i3), .val (.int i4), .val (.ref a237), .val (.ref a255), .val (.int (Int32.ofNat f1)), .val (.int (Int32.ofNat (f1 + k1))), .val (.ref a261), .val (.int (Int32.ofNat k1)), .val (.int (1 : Int32)), .val (.int r1), .unset, .unset, .unset, .unset, .unset, .unset, .unset, .unset, .unset]) at_148 rfl rfl ?_
  refine iconst (pc' := 151) (v := (1 : Int32)) at_150 rfl rfl ?_
  refine iload (pc' := 153) at_151 rfl rfl ?_
  refine iconst (pc' := 154) (v := (1 : Int32)) at_153 rfl rfl ?_
  refine iushr (pc' := 155) at_154 rfl ?_
  refine iconst (pc' := 156) (v := (1 : Int32)) at_155 rfl rfl ?_
  refine iand (pc' := 157) at_156 rfl ?_
  refine iadd (pc' := 158) at_157 rfl ?_
  obtain ⟨r2, hr2, er2⟩ : ∃ r : Int32, (r = 1 ∨ r = 2) ∧ ((1 : Int32) + (((i4.toUInt32 >>> ((1 : Int32) &&& 31).toUInt32).toInt32) &&& (1 : Int32))) = r := ⟨_, own_b1 _, rfl⟩
  rw [er2]
  refine istore (pc' := 160) (L' := #[.val (.int i0), .val (.int i1), .val (.int i2), .val (.int i3), .val (.int i4), .val (.ref a237), .val (.ref a255), .val (.int (Int32.ofNat f1)), .val (.int (Int32.ofNat (f1 + k1))), .val (.ref a261), .val (.int (Int32.ofNat k1)), .val (.int (1 : Int32)), .val (.int r1), .val (.int r2), .unset, .unset, .unset, .unset, .unset, .unset, .unset, .unset]) at_158 rfl rfl ?_
  refine iloadN (pc' := 161) at_160 rfl rfl ?_
  refine sipush (pc' := 164) (v := (255 : Int32)) at_161 rfl rfl ?_
  refine iand (pc' := 165) at_164 rfl ?_
  refine i2c (pc' := 166) at_165 rfl ?_
  obtain ⟨p, hp, ep⟩ : ∃ c : Int32, ok c ∧ ((i1 &&& (255 : Int32)).toUInt32.toUInt16.toUInt32.toInt32) = c := ⟨_, (by simp only [i2c_mask]; exact own_ok _), rfl⟩
  rw [ep]
  refine istore (pc' := 168) (L' := #[.val (.int i0), .val (.int i1), .val (.int i2), .val (.int i3), .val (.int i4), .val (.ref a237), .val (.ref a255), .val (.int (Int32.ofNat f1)), .val (.int (Int32.ofNat (f1 + k1))), .val (.ref a261), .val (.int (Int32.ofNat k1)), .val (.int (1 : Int32)), .val (.int r1), .val (.int r2), .val (.int p), .unset, .unset, .unset, .unset, .unset, .unset, .unset]) at_166 rfl rfl ?_
  refine iloadN (pc' := 169) at_168 rfl rfl ?_
  refine bipush (pc' := 171) (v := (8 : Int32)) at_169 rfl rfl ?_
  refine iushr (pc' := 172) at_171 rfl ?_
  refine call (i := 127) (i2 := 126) (Wd := 0) (pc' := 175) (kStatic (i := 124) (i2 := 125) (i3 := 126) (i4 := 127) (argsL := [(.int ((i1.toUInt32 >>> ((8 : Int32) &&& 31).toUInt32).toInt32))]) (S' := []) (Wd := 0) at_172 rfl rfl rfl rfl (by decide) rfl pd_18 rfl rfl (Nat.le_of_ble_eq_true rfl)) (rm_sl l Z a0 hw hEL n0 ((i1.toUInt32 >>> ((8 : Int32) &&& 31).toUInt32).toInt32) _) rfl rfl (by simp) (by decide) (by decide) (by decide) (by decide) rfl fun v_ h279 P280 sz281 => ?_
  obtain ⟨ca, rfl, hca, hca7, e282⟩ := P280
  rw [e282]
  refine at' (ce' := 7) (sl' := 45) (pc' := 175) (L' := #[.val (.int i0), .val (.int i1), .val (.int i2), .val (.int i3), .val (.int i4), .val (.ref a237), .val (.ref a255), .val (.int (Int32.ofNat f1)), .val (.int (Int32.ofNat (f1 + k1))), .val (.ref a261), .val (.int (Int32.ofNat k1)), .val (.int (1 : Int32)), .val (.int r1), .val (.int r2), .val (.int p), .unset, .unset, .unset, .unset, .unset, .unset, .unset]) (S' := [(.int ca)]) rfl rfl rfl rfl rfl ?_
  refine istore (pc' := 177) (L' := #[.val (.int i0), .val (.int i1), .val (.int i2), .val (.int i3), .val (.int i4), .val (.ref a237), .val (.ref a255), .val (.int (Int32.ofNat f1)), .val (.int (Int32.ofNat (f1 + k1))), .val (.ref a261), .val (.int (Int32.ofNat k1)), .val (.int (1 : Int32)), .val (.int r1), .val (.int r2), .val (.int p), .val (.int ca), .unset, .unset, .unset, .unset, .unset, .unset]) at_175 rfl rfl ?_
  refine iloadN (pc' := 178) at_177 rfl rfl ?_
  refine bipush (pc' := 180) (v := (16 : Int32)) at_178 rfl rfl ?_
  refine iushr (pc' := 181) at_180 rfl ?_
  refine call (i := 127) (i2 := 126) (Wd := 0) (pc' := 184) (kStatic (i := 124) (i2 := 125) (i3 := 126) (i4 := 127) (argsL := [(.int ((i1.toUInt32 >>> ((16 : Int32) &&& 31).toUInt32).toInt32))]) (S' := []) (Wd := 0) at_181 rfl rfl rfl rfl (by decide) rfl pd_18 rfl rfl (Nat.le_of_ble_eq_true rfl)) (rm_sl l Z a0 hw hEL n0 ((i1.toUInt32 >>> ((16 : Int32) &&& 31).toUInt32).toInt32) _) rfl rfl (by simp) (by decide) (by decide) (by decide) (by decide) rfl fun v_ h283 P284 sz285 => ?_
  obtain ⟨cb, rfl, hcb, hcb7, e286⟩ := P284
  rw [e286]
  refine at' (ce' := 7) (sl' := 45) (pc' := 184) (L' := #[.val (.int i0), .val (.int i1), .val (.int i2), .val (.int i3), .val (.int i4), .val (.ref a237), .val (.ref a255), .val (.int (Int32.ofNat f1)), .val (.int (Int32.ofNat (f1 + k1))), .val (.ref a261), .val (.int (Int32.ofNat k1)), .val (.int (1 : Int32)), .val (.int r1), .val (.int r2), .val (.int p), .val (.int ca), .unset, .unset, .unset, .unset, .unset, .unset]) (S' := [(.int cb)]) rfl rfl rfl rfl rfl ?_
  refine istore (pc' := 186) (L' := #[.val (.int i0), .val (.int i1), .val (.int i2), .val (.int i3), .val (.int i4), .val (.ref a237), .val (.ref a255), .val (.int (Int32.ofNat f1)), .val (.int (Int32.ofNat (f1 + k1))), .val (.ref a261), .val (.int (Int32.ofNat k1)), .val (.int (1 : Int32)), .val (.int r1), .val (.int r2), .val (.int p), .val (.int ca), .val (.int cb), .unset, .unset, .unset, .unset, .unset]) at_184 rfl rfl ?_
  refine iloadN (pc' := 187) at_186 rfl rfl ?_
  refine bipush (pc' := 189) (v := (24 : Int32)) at_187 rfl rfl ?_
  refine iushr (pc' := 190) at_189 rfl ?_
  refine sipush (pc' := 193) (v := (255 : Int32)) at_190 rfl rfl ?_
  refine iand (pc' := 194) at_193 rfl ?_
  refine i2c (pc' := 195) at_194 rfl ?_
  obtain ⟨q, hq, eq⟩ : ∃ c : Int32, ok c ∧ ((((i1.toUInt32 >>> ((24 : Int32) &&& 31).toUInt32).toInt32) &&& (255 : Int32)).toUInt32.toUInt16.toUInt32.toInt32) = c := ⟨_, (by simp only [i2c_mask]; exact own_ok _), rfl⟩
  rw [eq]
  refine istore (pc' := 197) (L' := #[.val (.int i0), .val (.int i1), .val (.int i2), .val (.int i3), .val (.int i4), .val (.ref a237), .val (.ref a255), .val (.int (Int32.ofNat f1)), .val (.int (Int32.ofNat (f1 + k1))), .val (.ref a261), .val (.int (Int32.ofNat k1)), .val (.int (1 : Int32)), .val (.int r1), .val (.int r2), .val (.int p), .val (.int ca), .val (.int cb), .val (.int q), .unset, .unset, .unset, .unset]) at_195 rfl rfl ?_
  refine bipush (pc' := 199) (v := (7 : Int32)) at_197 rfl rfl ?_
  refine newarray (i := 0) (cap := 7) (ty := .char) (pc' := 201) at_199 rfl rfl (by decide) (by decide) (by decide) (by decide) (by decide) rfl fun h287 a288 kc292 g289 E290 V291 => ?_
  replace V291 : Arv Z h287 a288 kc292 .char (7 : Int32) [(.int (0 : Int32)), (.int (0 : Int32)), (.int (0 : Int32)), (.int (0 : Int32)), (.int (0 : Int32)), (.int (0 : Int32)), (.int (0 : Int32))] (.int (0 : Int32)) := V291.pad (pad_rep [] (.int (0 : Int32)) 7)
  refine astore (pc' := 203) (L' := #[.val (.int i0), .val (.int i1), .val (.int i2), .val (.int i3), .val (.int i4), .val (.ref a237), .val (.ref a255), .val (.int (Int32.ofNat f1)), .val (.int (Int32.ofNat (f1 + k1))), .val (.ref a261), .val (.int (Int32.ofNat k1)), .val (.int (1 : Int32)), .val (.int r1), .val (.int r2), .val (.int p), .val (.int ca), .val (.int cb), .val (.int q), .val (.ref a288), .unset, .unset, .unset]) at_201 rfl rfl rfl ?_
  refine aload (pc' := 205) at_203 rfl rfl rfl ?_
  refine iconst (pc' := 206) (v := (0 : Int32)) at_205 rfl rfl ?_
  refine iconst (pc' := 207) (v := (0 : Int32)) at_206 rfl rfl ?_
  refine iload (pc' := 209) at_207 rfl rfl ?_
  refine iload (pc' := 211) at_209 rfl rfl ?_
  refine iload (pc' := 213) at_211 rfl rfl ?_
  refine iload (pc' := 215) at_213 rfl rfl ?_
  refine iload (pc' := 217) at_215 rfl rfl ?_
  refine iload (pc' := 219) at_217 rfl rfl ?_
  refine call (i := 130) (i2 := 126) (Wd := 2) (pc' := 222) (kStatic (i := 128) (i2 := 129) (i3 := 126) (i4 := 130) (argsL := [(.int (0 : Int32)), (.int r1), (.int r2), (.int p), (.int ca), (.int cb), (.int q)]) (S' := [(.int (0 : Int32)), (.ref a288)]) (Wd := 2) at_219 rfl rfl rfl rfl (by decide) rfl pd_27 rfl rfl (Nat.le_of_ble_eq_true rfl)) (rm_at l Z a0 hw hEL n0 (0 : Int32) r1 r2 p ca cb q _ hp hca hcb hq) rfl rfl (by simp) (by decide) (by decide) (by decide) (by decide) rfl fun v_ h293 P294 sz295 => ?_
  obtain ⟨rfl, e296⟩ := P294
  rw [e296]
  refine at' (ce' := 8) (sl' := 52) (pc' := 222) (L' := #[.val (.int i0), .val (.int i1), .val (.int i2), .val (.int i3), .val (.int i4), .val (.ref a237), .val (.ref a255), .val (.int (Int32.ofNat f1)), .val (.int (Int32.ofNat (f1 + k1))), .val (.ref a261), .val (.int (Int32.ofNat k1)), .val (.int (1 : Int32)), .val (.int r1), .val (.int r2), .val (.int p), .val (.int ca), .val (.int cb), .val (.int q), .val (.ref a288), .unset, .unset, .unset]) (S' := [(.int (own_at (0 : Int32) r1 r2 p ca cb q)), (.int (0 : Int32)), (.ref a288)]) rfl rfl rfl rfl rfl ?_
  refine castore (pc' := 223) at_222 V291 ⟨by decide, by decide⟩ (by simp) (Nat.le_of_ble_eq_true rfl) rfl fun h297 W298 V299 => ?_
  replace V291 : Arv Z h297 a288 kc292 .char (7 : Int32) [(.int (nar .char (own_at (0 : Int32) r1 r2 p ca cb q))), (.int (0 : Int32)), (.int (0 : Int32)), (.int (0 : Int32)), (.int (0 : Int32)), (.int (0 : Int32)), (.int (0 : Int32))] (.int (0 : Int32)) := V299
  refine aload (pc' := 225) at_223 rfl rfl rfl ?_
  refine iconst (pc' := 226) (v := (1 : Int32)) at_225 rfl rfl ?_
  refine iconst (pc' := 227) (v := (1 : Int32)) at_226 rfl rfl ?_
  refine iload (pc' := 229) at_227 rfl rfl ?_
  refine iload (pc' := 231) at_229 rfl rfl ?_
  refine iload (pc' := 233) at_231 rfl rfl ?_
  refine iload (pc' := 235) at_233 rfl rfl ?_
  refine iload (pc' := 237) at_235 rfl rfl ?_
  refine iload (pc' := 239) at_237 rfl rfl ?_
  refine call (i := 130) (i2 := 126) (Wd := 2) (pc' := 242) (kStatic (i := 128) (i2 := 129) (i3 := 126) (i4 := 130) (argsL := [(.int (1 : Int32)), (.int r1), (.int r2), (.int p), (.int ca), (.int cb), (.int q)]) (S' := [(.int (1 : Int32)), (.ref a288)]) (Wd := 2) at_239 rfl rfl rfl rfl (by decide) rfl pd_27 rfl rfl (Nat.le_of_ble_eq_true rfl)) (rm_at l Z a0 hw hEL n0 (1 : Int32) r1 r2 p ca cb q _ hp hca hcb hq) rfl rfl (by simp) (by decide) (by decide) (by decide) (by decide) rfl fun v_ h300 P301 sz302 => ?_
  obtain ⟨rfl, e303⟩ := P301
  rw [e303]
  refine at' (ce' := 8) (sl' := 52) (pc' := 242) (L' := #[.val (.int i0), .val (.int i1), .val (.int i2), .val (.int i3), .val (.int i4), .val (.ref a237), .val (.ref a255), .val (.int (Int32.ofNat f1)), .val (.int (Int32.ofNat (f1 + k1))), .val (.ref a261), .val (.int (Int32.ofNat k1)), .val (.int (1 : Int32)), .val (.int r1), .val (.int r2), .val (.int p), .val (.int ca), .val (.int cb), .val (.int q), .val (.ref a288), .unset, .unset, .unset]) (S' := [(.int (own_at (1 : Int32) r1 r2 p ca cb q)), (.int (1 : Int32)), (.ref a288)]) rfl rfl rfl rfl rfl ?_
  refine castore (pc' := 243) at_242 V291 ⟨by decide, by decide⟩ (by simp) (Nat.le_of_ble_eq_true rfl) rfl fun h304 W305 V306 => ?_
  replace V291 : Arv Z h304 a288 kc292 .char (7 : Int32) [(.int (nar .char (own_at (0 : Int32) r1 r2 p ca cb q))), (.int (nar .char (own_at (1 : Int32) r1 r2 p ca cb q))), (.int (0 : Int32)), (.int (0 : Int32)), (.int (0 : Int32)), (.int (0 : Int32)), (.int (0 : Int32))] (.int (0 : Int32)) := V306
  refine aload (pc' := 245) at_243 rfl rfl rfl ?_
  refine iconst (pc' := 246) (v := (2 : Int32)) at_245 rfl rfl ?_
  refine iconst (pc' := 247) (v := (2 : Int32)) at_246 rfl rfl ?_
  refine iload (pc' := 249) at_247 rfl rfl ?_
  refine iload (pc' := 251) at_249 rfl rfl ?_
  refine iload (pc' := 253) at_251 rfl rfl ?_
  refine iload (pc' := 255) at_253 rfl rfl ?_
  refine iload (pc' := 257) at_255 rfl rfl ?_
  refine iload (pc' := 259) at_257 rfl rfl ?_
  refine call (i := 130) (i2 := 126) (Wd := 2) (pc' := 262) (kStatic (i := 128) (i2 := 129) (i3 := 126) (i4 := 130) (argsL := [(.int (2 : Int32)), (.int r1), (.int r2), (.int p), (.int ca), (.int cb), (.int q)]) (S' := [(.int (2 : Int32)), (.ref a288)]) (Wd := 2) at_259 rfl rfl rfl rfl (by decide) rfl pd_27 rfl rfl (Nat.le_of_ble_eq_true rfl)) (rm_at l Z a0 hw hEL n0 (2 : Int32) r1 r2 p ca cb q _ hp hca hcb hq) rfl rfl (by simp) (by decide) (by decide) (by decide) (by decide) rfl fun v_ h307 P308 sz309 => ?_
  obtain ⟨rfl, e310⟩ := P308
  rw [e310]
  refine at' (ce' := 8) (sl' := 52) (pc' := 262) (L' := #[.val (.int i0), .val (.int i1), .val (.int i2), .val (.int i3), .val (.int i4), .val (.ref a237), .val (.ref a255), .val (.int (Int32.ofNat f1)), .val (.int (Int32.ofNat (f1 + k1))), .val (.ref a261), .val (.int (Int32.ofNat k1)), .val (.int (1 : Int32)), .val (.int r1), .val (.int r2), .val (.int p), .val (.int ca), .val (.int cb), .val (.int q), .val (.ref a288), .unset, .unset, .unset]) (S' := [(.int (own_at (2 : Int32) r1 r2 p ca cb q)), (.int (2 : Int32)), (.ref a288)]) rfl rfl rfl rfl rfl ?_
  refine castore (pc' := 263) at_262 V291 ⟨by decide, by decide⟩ (by simp) (Nat.le_of_ble_eq_true rfl) rfl fun h311 W312 V313 => ?_
  replace V291 : Arv Z h311 a288 kc292 .char (7 : Int32) [(.int (nar .char (own_at (0 : Int32) r1 r2 p ca cb q))), (.int (nar .char (own_at (1 : Int32) r1 r2 p ca cb q))), (.int (nar .char (own_at (2 : Int32) r1 r2 p ca cb q))), (.int (0 : Int32)), (.int (0 : Int32)), (.int (0 : Int32)), (.int (0 : Int32))] (.int (0 : Int32)) := V313
  refine aload (pc' := 265) at_263 rfl rfl rfl ?_
  refine iconst (pc' := 266) (v := (3 : Int32)) at_265 rfl rfl ?_
  refine iconst (pc' := 267) (v := (3 : Int32)) at_266 rfl rfl ?_
  refine iload (pc' := 269) at_267 rfl rfl ?_
  refine iload (pc' := 271) at_269 rfl rfl ?_
  refine iload (pc' := 273) at_271 rfl rfl ?_
  refine iload (pc' := 275) at_273 rfl rfl ?_
  refine iload (pc' := 277) at_275 rfl rfl ?_
  refine iload (pc' := 279) at_277 rfl rfl ?_
  refine call (i := 130) (i2 := 126) (Wd := 2) (pc' := 282) (kStatic (i := 128) (i2 := 129) (i3 := 126) (i4 := 130) (argsL := [(.int (3 : Int32)), (.int r1), (.int r2), (.int p), (.int ca), (.int cb), (.int q)]) (S' := [(.int (3 : Int32)), (.ref a288)]) (Wd := 2) at_279 rfl rfl rfl rfl (by decide) rfl pd_27 rfl rfl (Nat.le_of_ble_eq_true rfl)) (rm_at l Z a0 hw hEL n0 (3 : Int32) r1 r2 p ca cb q _ hp hca hcb hq) rfl rfl (by simp) (by decide) (by decide) (by decide) (by decide) rfl fun v_ h314 P315 sz316 => ?_
  obtain ⟨rfl, e317⟩ := P315
  rw [e317]
  refine at' (ce' := 8) (sl' := 52) (pc' := 282) (L' := #[.val (.int i0), .val (.int i1), .val (.int i2), .val (.int i3), .val (.int i4), .val (.ref a237), .val (.ref a255), .val (.int (Int32.ofNat f1)), .val (.int (Int32.ofNat (f1 + k1))), .val (.ref a261), .val (.int (Int32.ofNat k1)), .val (.int (1 : Int32)), .val (.int r1), .val (.int r2), .val (.int p), .val (.int ca), .val (.int cb), .val (.int q), .val (.ref a288), .unset, .unset, .unset]) (S' := [(.int (own_at (3 : Int32) r1 r2 p ca cb q)), (.int (3 : Int32)), (.ref a288)]) rfl rfl rfl rfl rfl ?_
  refine castore (pc' := 283) at_282 V291 ⟨by decide, by decide⟩ (by simp) (Nat.le_of_ble_eq_true rfl) rfl fun h318 W319 V320 => ?_
  replace V291 : Arv Z h318 a288 kc292 .char (7 : Int32) [(.int (nar .char (own_at (0 : Int32) r1 r2 p ca cb q))), (.int (nar .char (own_at (1 : Int32) r1 r2 p ca cb q))), (.int (nar .char (own_at (2 : Int32) r1 r2 p ca cb q))), (.int (nar .char (own_at (3 : Int32) r1 r2 p ca cb q))), (.int (0 : Int32)), (.int (0 : Int32)), (.int (0 : Int32))] (.int (0 : Int32)) := V320
  refine aload (pc' := 285) at_283 rfl rfl rfl ?_
  refine iconst (pc' := 286) (v := (4 : Int32)) at_285 rfl rfl ?_
  refine iconst (pc' := 287) (v := (4 : Int32)) at_286 rfl rfl ?_
  refine iload (pc' := 289) at_287 rfl rfl ?_
  refine iload (pc' := 291) at_289 rfl rfl ?_
  refine iload (pc' := 293) at_291 rfl rfl ?_
  refine iload (pc' := 295) at_293 rfl rfl ?_
  refine iload (pc' := 297) at_295 rfl rfl ?_
  refine iload (pc' := 299) at_297 rfl rfl ?_
  refine call (i := 130) (i2 := 126) (Wd := 2) (pc' := 302) (kStatic (i := 128) (i2 := 129) (i3 := 126) (i4 := 130) (argsL := [(.int (4 : Int32)), (.int r1), (.int r2), (.int p), (.int ca), (.int cb), (.int q)]) (S' := [(.int (4 : Int32)), (.ref a288)]) (Wd := 2) at_299 rfl rfl rfl rfl (by decide) rfl pd_27 rfl rfl (Nat.le_of_ble_eq_true rfl)) (rm_at l Z a0 hw hEL n0 (4 : Int32) r1 r2 p ca cb q _ hp hca hcb hq) rfl rfl (by simp) (by decide) (by decide) (by decide) (by decide) rfl fun v_ h321 P322 sz323 => ?_
  obtain ⟨rfl, e324⟩ := P322
  rw [e324]
  refine at' (ce' := 8) (sl' := 52) (pc' := 302) (L' := #[.val (.int i0), .val (.int i1), .val (.int i2), .val (.int i3), .val (.int i4), .val (.ref a237), .val (.ref a255), .val (.int (Int32.ofNat f1)), .val (.int (Int32.ofNat (f1 + k1))), .val (.ref a261), .val (.int (Int32.ofNat k1)), .val (.int (1 : Int32)), .val (.int r1), .val (.int r2), .val (.int p), .val (.int ca), .val (.int cb), .val (.int q), .val (.ref a288), .unset, .unset, .unset]) (S' := [(.int (own_at (4 : Int32) r1 r2 p ca cb q)), (.int (4 : Int32)), (.ref a288)]) rfl rfl rfl rfl rfl ?_
  refine castore (pc' := 303) at_302 V291 ⟨by decide, by decide⟩ (by simp) (Nat.le_of_ble_eq_true rfl) rfl fun h325 W326 V327 => ?_
  replace V291 : Arv Z h325 a288 kc292 .char (7 : Int32) [(.int (nar .char (own_at (0 : Int32) r1 r2 p ca cb q))), (.int (nar .char (own_at (1 : Int32) r1 r2 p ca cb q))), (.int (nar .char (own_at (2 : Int32) r1 r2 p ca cb q))), (.int (nar .char (own_at (3 : Int32) r1 r2 p ca cb q))), (.int (nar .char (own_at (4 : Int32) r1 r2 p ca cb q))), (.int (0 : Int32)), (.int (0 : Int32))] (.int (0 : Int32)) := V327
  refine aload (pc' := 305) at_303 rfl rfl rfl ?_
  refine iconst (pc' := 306) (v := (5 : Int32)) at_305 rfl rfl ?_
  refine iconst (pc' := 307) (v := (5 : Int32)) at_306 rfl rfl ?_
  refine iload (pc' := 309) at_307 rfl rfl ?_
  refine iload (pc' := 311) at_309 rfl rfl ?_
  refine iload (pc' := 313) at_311 rfl rfl ?_
  refine iload (pc' := 315) at_313 rfl rfl ?_
  refine iload (pc' := 317) at_315 rfl rfl ?_
  refine iload (pc' := 319) at_317 rfl rfl ?_
  refine call (i := 130) (i2 := 126) (Wd := 2) (pc' := 322) (kStatic (i := 128) (i2 := 129) (i3 := 126) (i4 := 130) (argsL := [(.int (5 : Int32)), (.int r1), (.int r2), (.int p), (.int ca), (.int cb), (.int q)]) (S' := [(.int (5 : Int32)), (.ref a288)]) (Wd := 2) at_319 rfl rfl rfl rfl (by decide) rfl pd_27 rfl rfl (Nat.le_of_ble_eq_true rfl)) (rm_at l Z a0 hw hEL n0 (5 : Int32) r1 r2 p ca cb q _ hp hca hcb hq) rfl rfl (by simp) (by decide) (by decide) (by decide) (by decide) rfl fun v_ h328 P329 sz330 => ?_
  obtain ⟨rfl, e331⟩ := P329
  rw [e331]
  refine at' (ce' := 8) (sl' := 52) (pc' := 322) (L' := #[.val (.int i0), .val (.int i1), .val (.int i2), .val (.int i3), .val (.int i4), .val (.ref a237), .val (.ref a255), .val (.int (Int32.ofNat f1)), .val (.int (Int32.ofNat (f1 + k1))), .val (.ref a261), .val (.int (Int32.ofNat k1)), .val (.int (1 : Int32)), .val (.int r1), .val (.int r2), .val (.int p), .val (.int ca), .val (.int cb), .val (.int q), .val (.ref a288), .unset, .unset, .unset]) (S' := [(.int (own_at (5 : Int32) r1 r2 p ca cb q)), (.int (5 : Int32)), (.ref a288)]) rfl rfl rfl rfl rfl ?_
  refine castore (pc' := 323) at_322 V291 ⟨by decide, by decide⟩ (by simp) (Nat.le_of_ble_eq_true rfl) rfl fun h332 W333 V334 => ?_
  replace V291 : Arv Z h332 a288 kc292 .char (7 : Int32) [(.int (nar .char (own_at (0 : Int32) r1 r2 p ca cb q))), (.int (nar .char (own_at (1 : Int32) r1 r2 p ca cb q))), (.int (nar .char (own_at (2 : Int32) r1 r2 p ca cb q))), (.int (nar .char (own_at (3 : Int32) r1 r2 p ca cb q))), (.int (nar .char (own_at (4 : Int32) r1 r2 p ca cb q))), (.int (nar .char (own_at (5 : Int32) r1 r2 p ca cb q))), (.int (0 : Int32))] (.int (0 : Int32)) := V334
  refine aload (pc' := 325) at_323 rfl rfl rfl ?_
  refine bipush (pc' := 327) (v := (6 : Int32)) at_325 rfl rfl ?_
  refine bipush (pc' := 329) (v := (6 : Int32)) at_327 rfl rfl ?_
  refine iload (pc' := 331) at_329 rfl rfl ?_
  refine iload (pc' := 333) at_331 rfl rfl ?_
  refine iload (pc' := 335) at_333 rfl rfl ?_
  refine iload (pc' := 337) at_335 rfl rfl ?_
  refine iload (pc' := 339) at_337 rfl rfl ?_
  refine iload (pc' := 341) at_339 rfl rfl ?_
  refine call (i := 130) (i2 := 126) (Wd := 2) (pc' := 344) (kStatic (i := 128) (i2 := 129) (i3 := 126) (i4 := 130) (argsL := [(.int (6 : Int32)), (.int r1), (.int r2), (.int p), (.int ca), (.int cb), (.int q)]) (S' := [(.int (6 : Int32)), (.ref a288)]) (Wd := 2) at_341 rfl rfl rfl rfl (by decide) rfl pd_27 rfl rfl (Nat.le_of_ble_eq_true rfl)) (rm_at l Z a0 hw hEL n0 (6 : Int32) r1 r2 p ca cb q _ hp hca hcb hq) rfl rfl (by simp) (by decide) (by decide) (by decide) (by decide) rfl fun v_ h335 P336 sz337 => ?_
  obtain ⟨rfl, e338⟩ := P336
  rw [e338]
  refine at' (ce' := 8) (sl' := 52) (pc' := 344) (L' := #[.val (.int i0), .val (.int i1), .val (.int i2), .val (.int i3), .val (.int i4), .val (.ref a237), .val (.ref a255), .val (.int (Int32.ofNat f1)), .val (.int (Int32.ofNat (f1 + k1))), .val (.ref a261), .val (.int (Int32.ofNat k1)), .val (.int (1 : Int32)), .val (.int r1), .val (.int r2), .val (.int p), .val (.int ca), .val (.int cb), .val (.int q), .val (.ref a288), .unset, .unset, .unset]) (S' := [(.int (own_at (6 : Int32) r1 r2 p ca cb q)), (.int (6 : Int32)), (.ref a288)]) rfl rfl rfl rfl rfl ?_
  refine castore (pc' := 345) at_344 V291 ⟨by decide, by decide⟩ (by simp) (Nat.le_of_ble_eq_true rfl) rfl fun h339 W340 V341 => ?_
  replace V291 : Arv Z h339 a288 kc292 .char (7 : Int32) [(.int (nar .char (own_at (0 : Int32) r1 r2 p ca cb q))), (.int (nar .char (own_at (1 : Int32) r1 r2 p ca cb q))), (.int (nar .char (own_at (2 : Int32) r1 r2 p ca cb q))), (.int (nar .char (own_at (3 : Int32) r1 r2 p ca cb q))), (.int (nar .char (own_at (4 : Int32) r1 r2 p ca cb q))), (.int (nar .char (own_at (5 : Int32) r1 r2 p ca cb q))), (.int (nar .char (own_at (6 : Int32) r1 r2 p ca cb q)))] (.int (0 : Int32)) := V341
  have hat : ∀ i, nar .char (own_at i r1 r2 p ca cb q) = own_at i r1 r2 p ca cb q := fun i => own_nar (own_at_ok hp hca hcb hq i r1 r2)
  refine new (i := 1) (i2 := 2) (i3 := 3) (pc' := 348) at_345 rfl rfl rfl (by decide) (by decide) rfl fun h342 a343 g344 E345 A346 D347 => ?_
  have ne_a288_a343 : a288 ≠ a343 := Nat.ne_of_lt (by rw [g344]; exact V291.lt)
  replace V291 := V291.ext E345
  have F_coder_a343 : Fld Z h342 a343 "java/lang/String" "coder" "B" (.int (0 : Int32)) := D347 (Or.inr (hw _ (List.mem_of_getElem? (i := 27) rfl))) (ty := .byte) (by decide)
  have F_value_a343 : Fld Z h342 a343 "java/lang/String" "value" "[B" .null := D347 (Or.inr (hw _ (List.mem_of_getElem? (i := 29) rfl))) (ty := (.array .byte)) (by decide)
  refine dup (pc' := 349) at_348 rfl rfl ?_
  refine aload (pc' := 351) at_349 rfl rfl rfl ?_
  have q2 := V291
  simp only [hat] at q2
  obtain ⟨cs2, hl2, hp2, hg2, qq2⟩ : ∃ cs : List Int32, cs.length = 7 ∧ (∀ c ∈ cs, ¬ c < 0 ∧ ¬ (255 : Int32) < c) ∧ (∀ j, j < 7 → cs.getD j 0 = own_at (Int32.ofNat j) r1 r2 p ca cb q) ∧ Arv Z h342 a288 kc292 .char (7 : Int32) (cs.map Value.int) (.int (0 : Int32)) := ⟨[own_at (0 : Int32) r1 r2 p ca cb q, own_at (1 : Int32) r1 r2 p ca cb q, own_at (2 : Int32) r1 r2 p ca cb q, own_at (3 : Int32) r1 r2 p ca cb q, own_at (4 : Int32) r1 r2 p ca cb q, own_at (5 : Int32) r1 r2 p ca cb q, own_at (6 : Int32) r1 r2 p ca cb q], rfl, own_ok7 hp hca hcb hq r1 r2, own_cs7 _ _ _ _ _ _, q2⟩
  refine strNew (i := 2) (Wd := 1) (n := 7) (cs := cs2) (pc' := 354) hB (by decide +kernel) rfl (kInit (i := 4) (i2 := 5) (i4 := 6) (a := a343) (argsL := [(.ref a288)]) (S' := [(.ref a343)]) (Wd := 1) at_351 rfl rfl rfl rfl (by decide) rfl pd_24 rfl rfl (Nat.le_of_ble_eq_true rfl)) A346 F_value_a343 F_coder_a343 qq2 hl2 rfl (by decide) (by decide) hp2 (by simp) (by decide) (by decide) (by decide) (by decide) rfl fun hs2 Ks2 Ss2 => ?_
  refine at' (ce' := 10) (sl' := 63) (pc' := 354) (L' := #[.val (.int i0), .val (.int i1), .val (.int i2), .val (.int i3), .val (.int i4), .val (.ref a237), .val (.ref a255), .val (.int (Int32.ofNat f1)), .val (.int (Int32.ofNat (f1 + k1))), .val (.ref a261), .val (.int (Int32.ofNat k1)), .val (.int (1 : Int32)), .val (.int r1), .val (.int r2), .val (.int p), .val (.int ca), .val (.int cb), .val (.int q), .val (.ref a288), .unset, .unset, .unset]) (S' := [(.ref a343)]) rfl rfl rfl rfl rfl ?_
  have K : Keep hs2 hs2 [] := Keep.refl _ _
  refine astore (pc' := 356) (L' := #[.val (.int i0), .val (.int i1), .val (.int i2), .val (.int i3), .val (.int i4), .val (.ref a237), .val (.ref a255), .val (.int (Int32.ofNat f1)), .val (.int (Int32.ofNat (f1 + k1))), .val (.ref a261), .val (.int (Int32.ofNat k1)), .val (.int (1 : Int32)), .val (.int r1), .val (.int r2), .val (.int p), .val (.int ca), .val (.int cb), .val (.int q), .val (.ref a288), .val (.ref a343), .unset, .unset]) at_354 rfl rfl rfl ?_
  refine new (i := 31) (i2 := 32) (i3 := 33) (pc' := 359) at_356 rfl rfl rfl (by decide) (by decide) rfl fun h348 a349 g350 E351 A352 D353 => ?_
  have sz_a349 : hs2.size ≤ a349 := by rw [g350]; exact K.1
  replace K := K.ext E351
  have F_bounds_a349 : Fld Z h348 a349 "gatelayer/PathSegments" "bounds" "[I" .null := D353 (Or.inl (hw _ (List.mem_of_getElem? (i := 40) rfl))) (ty := (.array .int)) (by decide)
  have F_text_a349 : Fld Z h348 a349 "gatelayer/PathSegments" "text" "Ljava/lang/String;" .null := D353 (Or.inr (hw _ (List.mem_of_getElem? (i := 42) rfl))) (ty := (.object "java/lang/String")) (by decide)
  have F_from_a349 : Fld Z h348 a349 "gatelayer/PathSegments" "from" "I" (.int (0 : Int32)) := D353 (Or.inr (hw _ (List.mem_of_getElem? (i := 44) rfl))) (ty := .int) (by decide)
  have F_to_a349 : Fld Z h348 a349 "gatelayer/PathSegments" "to" "I" (.int (0 : Int32)) := D353 (Or.inl (hw _ (List.mem_of_getElem? (i := 46) rfl))) (ty := .int) (by decide)
  have F_dropped_a349 : Fld Z h348 a349 "gatelayer/PathSegments" "dropped" "I" (.int (0 : Int32)) := D353 (Or.inl (hw _ (List.mem_of_getElem? (i := 58) rfl))) (ty := .int) (by decide)
  have F_count_a349 : Fld Z h348 a349 "gatelayer/PathSegments" "count" "I" (.int (0 : Int32)) := D353 (Or.inl (hw _ (List.mem_of_getElem? (i := 137) rfl))) (ty := .int) (by decide)
  refine dup (pc' := 360) at_359 rfl rfl ?_
  refine aload (pc' := 362) at_360 rfl rfl rfl ?_
  refine iconst (pc' := 363) (v := (1 : Int32)) at_362 rfl rfl ?_
  have ha_2 := A352.lt
  refine call (i := 36) (i2 := 33) (Wd := 1) (pc' := 366) (kInit (i := 34) (i2 := 35) (i4 := 36) (a := a349) (argsL := [(.ref a343), (.int (1 : Int32))]) (S' := [(.ref a349)]) (Wd := 1) at_363 rfl rfl rfl rfl (by decide) rfl pd_25 rfl rfl (Nat.le_of_ble_eq_true rfl)) (rm_ps l Z a0 hw hEL n0 a349 a343 1 _ A352 F_bounds_a349 F_text_a349 F_from_a349 F_to_a349 F_dropped_a349 F_count_a349) rfl rfl (by simp) (by decide) (by decide) (by decide) (by decide) rfl fun v_ h354 P355 sz356 => ?_
  obtain ⟨bd2, kbd2, rfl, Kn2, hb2, P2⟩ := P355
  have sz_bd2 : hs2.size ≤ bd2 := Nat.le_trans K.1 hb2
  replace K := K.trans Kn2 (allS (Or.inr sz_a349) all0)
  refine at' (ce' := 12) (sl' := 85) (pc' := 366) (L' := #[.val (.int i0), .val (.int i1), .val (.int i2), .val (.int i3), .val (.int i4), .val (.ref a237), .val (.ref a255), .val (.int (Int32.ofNat f1)), .val (.int (Int32.ofNat (f1 + k1))), .val (.ref a261), .val (.int (Int32.ofNat k1)), .val (.int (1 : Int32)), .val (.int r1), .val (.int r2), .val (.int p), .val (.int ca), .val (.int cb), .val (.int q), .val (.ref a288), .val (.ref a343), .unset, .unset]) (S' := [(.ref a349)]) rfl rfl rfl rfl rfl ?_
  refine fsz fun Fz => ?_
  have hnb : n0 ≤ bd2 := Nat.le_trans (Fz a349 (by simp)).1 (Nat.le_trans (Nat.le_of_lt ha_2) hb2)
  refine adoptA P2.2.2.2.2.2.2.2 (by decide) hnb ?_
  refine astore (pc' := 368) (L' := #[.val (.int i0), .val (.int i1), .val (.int i2), .val (.int i3), .val (.int i4), .val (.ref a237), .val (.ref a255), .val (.int (Int32.ofNat f1)), .val (.int (Int32.ofNat (f1 + k1))), .val (.ref a261), .val (.int (Int32.ofNat k1)), .val (.int (1 : Int32)), .val (.int r1), .val (.int r2), .val (.int p), .val (.int ca), .val (.int cb), .val (.int q), .val (.ref a288), .val (.ref a343), .val (.ref a349), .unset]) at_366 rfl rfl rfl ?_
  refine aload (pc' := 370) at_368 rfl rfl rfl ?_
  refine iconst (pc' := 371) (v := (1 : Int32)) at_370 rfl rfl ?_
  refine iload (pc' := 373) at_371 rfl rfl ?_
  refine iadd (pc' := 374) at_373 rfl ?_
  refine iconst (pc' := 375) (v := (2 : Int32)) at_374 rfl rfl ?_
  refine iload (pc' := 377) at_375 rfl rfl ?_
  refine iadd (pc' := 378) at_377 rfl ?_
  refine call (i := 135) (i2 := 33) (Wd := 0) (pc' := 381) (kVirt (i := 131) (i2 := 132) (i3 := 134) (i4 := 133) (C := "gatelayer/PathSegments") (a := a349) (argsL := [(.int ((1 : Int32) + r1)), (.int ((2 : Int32) + r1))]) (S' := []) (Wd := 0) at_378 rfl rfl rfl rfl (P2.1) (by decide) rfl pd_1 rfl rfl (Nat.le_of_ble_eq_true rfl)) (rm_add0 l Z a0 hw hEL n0 a349 bd2 a343 kbd2 1 1 0 ((1 : Int32) + r1) ((2 : Int32) + r1) _ P2) rfl rfl (by simp) (by decide) (by decide) (by decide) (by decide) rfl fun v_ h357 P358 sz359 => ?_
  obtain ⟨rfl, Kd1, Pa1⟩ := P358
  replace K := K.trans Kd1 (allS (Or.inr sz_a349) (allS (Or.inr sz_bd2) all0))
  refine at' (ce' := 12) (sl' := 85) (pc' := 381) (L' := #[.val (.int i0), .val (.int i1), .val (.int i2), .val (.int i3), .val (.int i4), .val (.ref a237), .val (.ref a255), .val (.int (Int32.ofNat f1)), .val (.int (Int32.ofNat (f1 + k1))), .val (.ref a261), .val (.int (Int32.ofNat k1)), .val (.int (1 : Int32)), .val (.int r1), .val (.int r2), .val (.int p), .val (.int ca), .val (.int cb), .val (.int q), .val (.ref a288), .val (.ref a343), .val (.ref a349), .unset]) (S' := []) rfl rfl rfl rfl rfl ?_
  refine aload (pc' := 383) at_381 rfl rfl rfl ?_
  refine iconst (pc' := 384) (v := (2 : Int32)) at_383 rfl rfl ?_
  refine iload (pc' := 386) at_384 rfl rfl ?_
  refine iadd (pc' := 387) at_386 rfl ?_
  refine iload (pc' := 389) at_387 rfl rfl ?_
  refine iadd (pc' := 390) at_389 rfl ?_
  refine iconst (pc' := 391) (v := (3 : Int32)) at_390 rfl rfl ?_
  refine iload (pc' := 393) at_391 rfl rfl ?_
  refine iadd (pc' := 394) at_393 rfl ?_
  refine iload (pc' := 396) at_394 rfl rfl ?_
  refine iadd (pc' := 397) at_396 rfl ?_
  refine call (i := 135) (i2 := 33) (Wd := 0) (pc' := 400) (kVirt (i := 131) (i2 := 132) (i3 := 134) (i4 := 133) (C := "gatelayer/PathSegments") (a := a349) (argsL := [(.int (((2 : Int32) + r1) + r2)), (.int (((3 : Int32) + r1) + r2))]) (S' := []) (Wd := 0) at_397 rfl rfl rfl rfl (Pa1.1) (by decide) rfl pd_1 rfl rfl (Nat.le_of_ble_eq_true rfl)) (rm_add1 l Z a0 hw hEL n0 a349 bd2 a343 kbd2 1 1 0 (((2 : Int32) + r1) + r2) (((3 : Int32) + r1) + r2) ((1 : Int32) + r1) ((2 : Int32) + r1) _ Pa1) rfl rfl (by simp) (by decide) (by decide) (by decide) (by decide) rfl fun v_ h360 P361 sz362 => ?_
  obtain ⟨rfl, Kd2, Pa2⟩ := P361
  replace K := K.trans Kd2 (allS (Or.inr sz_a349) (allS (Or.inr sz_bd2) all0))
  refine at' (ce' := 12) (sl' := 85) (pc' := 400) (L' := #[.val (.int i0), .val (.int i1), .val (.int i2), .val (.int i3), .val (.int i4), .val (.ref a237), .val (.ref a255), .val (.int (Int32.ofNat f1)), .val (.int (Int32.ofNat (f1 + k1))), .val (.ref a261), .val (.int (Int32.ofNat k1)), .val (.int (1 : Int32)), .val (.int r1), .val (.int r2), .val (.int p), .val (.int ca), .val (.int cb), .val (.int q), .val (.ref a288), .val (.ref a343), .val (.ref a349), .unset]) (S' := []) rfl rfl rfl rfl rfl ?_
  refine aload (pc' := 402) at_400 rfl rfl rfl ?_
  refine iconst (pc' := 403) (v := (3 : Int32)) at_402 rfl rfl ?_
  refine iload (pc' := 405) at_403 rfl rfl ?_
  refine iadd (pc' := 406) at_405 rfl ?_
  refine iload (pc' := 408) at_406 rfl rfl ?_
  refine iadd (pc' := 409) at_408 rfl ?_
  refine iload (pc' := 411) at_409 rfl rfl ?_
  refine iload (pc' := 413) at_411 rfl rfl ?_
  refine iadd (pc' := 414) at_413 rfl ?_
  refine iconst (pc' := 415) (v := (2 : Int32)) at_414 rfl rfl ?_
  refine isub (pc' := 416) at_415 rfl ?_
  refine call (i := 56) (i2 := 33) (Wd := 0) (pc' := 419) (kVirt (i := 138) (i2 := 53) (i3 := 55) (i4 := 54) (C := "gatelayer/PathSegments") (a := a349) (argsL := [(.int (((3 : Int32) + r1) + r2)), (.int ((r1 + r2) - (2 : Int32)))]) (S' := []) (Wd := 0) at_416 rfl rfl rfl rfl (Pa2.1) (by decide) rfl pd_17 rfl rfl (Nat.le_of_ble_eq_true rfl)) (rm_ea2 l Z a0 hw hEL n0 a349 bd2 a343 kbd2 1 1 0 2 [(.int ((1 : Int32) + r1)), (.int ((2 : Int32) + r1)), (.int (((2 : Int32) + r1) + r2)), (.int (((3 : Int32) + r1) + r2)), (.int (0 : Int32)), (.int (0 : Int32)), (.int (0 : Int32)), (.int (0 : Int32)), (.int (0 : Int32)), (.int (0 : Int32)), (.int (0 : Int32)), (.int (0 : Int32)), (.int (0 : Int32)), (.int (0 : Int32)), (.int (0 : Int32)), (.int (0 : Int32))] (((3 : Int32) + r1) + r2) ((r1 + r2) - (2 : Int32)) _ Pa2) rfl rfl (by simp) (by decide) (by decide) (by decide) (by decide) rfl fun v_ h363 P364 sz365 => ?_
  obtain ⟨rfl, Kd3, Pa3⟩ := P364
  replace K := K.trans Kd3 (allS (Or.inr sz_a349) all0)
  refine at' (ce' := 12) (sl' := 85) (pc' := 419) (L' := #[.val (.int i0), .val (.int i1), .val (.int i2), .val (.int i3), .val (.int i4), .val (.ref a237), .val (.ref a255), .val (.int (Int32.ofNat f1)), .val (.int (Int32.ofNat (f1 + k1))), .val (.ref a261), .val (.int (Int32.ofNat k1)), .val (.int (1 : Int32)), .val (.int r1), .val (.int r2), .val (.int p), .val (.int ca), .val (.int cb), .val (.int q), .val (.ref a288), .val (.ref a343), .val (.ref a349), .unset]) (S' := [(.ref a349)]) rfl rfl rfl rfl rfl ?_
  refine Ow.pop (pc' := 420) at_419 rfl rfl ?_
  refine aload (pc' := 422) at_420 rfl rfl rfl ?_
  have Sy2 := Ss2.ext (keepExt K)
  rcases hr1 with rfl | rfl <;> rcases hr2 with rfl | rfl
  · skip
    refine call (i := 63) (i2 := 33) (Wd := 0) (pc' := 425) (kVirt (i := 59) (i2 := 60) (i3 := 62) (i4 := 61) (C := "gatelayer/PathSegments") (a := a349) (argsL := []) (S' := []) (Wd := 0) at_422 rfl rfl rfl rfl (Pa3.1) (by decide) rfl pd_5 rfl rfl (Nat.le_of_ble_eq_true rfl)) (rm_len l Z a0 hw hEL n0 a349 bd2 a343 kbd2 1 (((3 : Int32) + 1) + 1) ((1 + 1) - (2 : Int32)) 2 [(.int ((1 : Int32) + 1)), (.int ((2 : Int32) + 1)), (.int (((2 : Int32) + 1) + 1)), (.int (((3 : Int32) + 1) + 1)), (.int (0 : Int32)), (.int (0 : Int32)), (.int (0 : Int32)), (.int (0 : Int32)), (.int (0 : Int32)), (.int (0 : Int32)), (.int (0 : Int32)), (.int (0 : Int32)), (.int (0 : Int32)), (.int (0 : Int32)), (.int (0 : Int32)), (.int (0 : Int32))] 4 _ Pa3 (by decide)) rfl rfl (by simp) (by decide) (by decide) (by decide) (by decide) rfl fun v_ h366 P367 sz368 => ?_
    obtain ⟨rfl, e369⟩ := P367
    rw [e369]
    refine at' (ce' := 12) (sl' := 85) (pc' := 425) (L' := #[.val (.int i0), .val (.int i1), .val (.int i2), .val (.int i3), .val (.int i4), .val (.ref a237), .val (.ref a255), .val (.int (Int32.ofNat f1)), .val (.int (Int32.ofNat (f1 + k1))), .val (.ref a261), .val (.int (Int32.ofNat k1)), .val (.int (1 : Int32)), .val (.int 1), .val (.int 1), .val (.int p), .val (.int ca), .val (.int cb), .val (.int q), .val (.ref a288), .val (.ref a343), .val (.ref a349), .unset]) (S' := [(.int (4 : Int32))]) rfl rfl rfl rfl rfl ?_
    refine istore (pc' := 427) (L' := #[.val (.int i0), .val (.int i1), .val (.int i2), .val (.int i3), .val (.int i4), .val (.ref a237), .val (.ref a255), .val (.int (Int32.ofNat f1)), .val (.int (Int32.ofNat (f1 + k1))), .val (.ref a261), .val (.int (Int32.ofNat k1)), .val (.int (1 : Int32)), .val (.int 1), .val (.int 1), .val (.int p), .val (.int ca), .val (.int cb), .val (.int q), .val (.ref a288), .val (.ref a343), .val (.ref a349), .val (.int (4 : Int32))]) at_425 rfl rfl ?_
    refine iload (pc' := 429) at_427 rfl rfl ?_
    refine ifF (pc' := 432) at_429 (by decide : ¬ ((1 : Int32) = (0 : Int32))) rfl ?_
    refine iload (pc' := 434) at_432 rfl rfl ?_
    refine iconst (pc' := 435) (v := (4 : Int32)) at_434 rfl rfl ?_
    refine icmpF (pc' := 438) at_435 (rfl : (4 : Int32) = (4 : Int32)) rfl ?_
    refine iload (pc' := 440) at_438 rfl rfl ?_
    refine aload (pc' := 442) at_440 rfl rfl rfl ?_
    refine call (i := 68) (i2 := 33) (Wd := 1) (pc' := 445) (kVirt (i := 64) (i2 := 65) (i3 := 67) (i4 := 66) (C := "gatelayer/PathSegments") (a := a349) (argsL := []) (S' := [(.int (4 : Int32))]) (Wd := 1) at_442 rfl rfl rfl rfl (Pa3.1) (by decide) rfl pd_23 rfl rfl (Nat.le_of_ble_eq_true rfl)) (rm_p1 l Z a0 hw hEL n0 a349 bd2 a343 kbd2 2 [(.int ((1 : Int32) + 1)), (.int ((2 : Int32) + 1)), (.int (((2 : Int32) + 1) + 1)), (.int (((3 : Int32) + 1) + 1)), (.int (0 : Int32)), (.int (0 : Int32)), (.int (0 : Int32)), (.int (0 : Int32)), (.int (0 : Int32)), (.int (0 : Int32)), (.int (0 : Int32)), (.int (0 : Int32)), (.int (0 : Int32)), (.int (0 : Int32)), (.int (0 : Int32)), (.int (0 : Int32))] cs2 1 4 _ hB (by have q := Pa3; rw [show (((3 : Int32) + 1) + 1) = Int32.ofNat (1 + 4) from by decide, show ((1 + 1) - (2 : Int32)) = (0 : Int32) from by decide] at q; exact q) Sy2 (by omega) (by omega)) rfl rfl (by simp) (by decide) (by decide) (by decide) (by decide) rfl fun v_ h370 P371 sz372 => ?_
    obtain ⟨r9, rfl, X9, S9⟩ := P371
    refine at' (ce' := 14) (sl' := 96) (pc' := 445) (L' := #[.val (.int i0), .val (.int i1), .val (.int i2), .val (.int i3), .val (.int i4), .val (.ref a237), .val (.ref a255), .val (.int (Int32.ofNat f1)), .val (.int (Int32.ofNat (f1 + k1))), .val (.ref a261), .val (.int (Int32.ofNat k1)), .val (.int (1 : Int32)), .val (.int 1), .val (.int 1), .val (.int p), .val (.int ca), .val (.int cb), .val (.int q), .val (.ref a288), .val (.ref a343), .val (.ref a349), .val (.int (4 : Int32))]) (S' := [(.ref r9), (.int (4 : Int32))]) rfl rfl rfl rfl rfl ?_
    refine strLen (i := 2) (Wd := 1) (cs := ((cs2.drop 1).take 4)) (pc' := 448) hB (by decide +kernel) rfl (kVirt (i := 123) (i2 := 75) (i3 := 77) (i4 := 76) (C := "java/lang/String") (a := r9) (argsL := []) (S' := [(.int (4 : Int32))]) (Wd := 1) at_445 rfl rfl rfl rfl S9.exa (by decide) rfl pd_5 rfl rfl (Nat.le_of_ble_eq_true rfl)) S9 (by decide) (by decide) (by decide) (by decide) rfl ?_
    rw [show (((cs2.drop 1).take 4)).length = 4 from sub_len (by omega)]
    refine at' (ce' := 14) (sl' := 96) (pc' := 448) (L' := #[.val (.int i0), .val (.int i1), .val (.int i2), .val (.int i3), .val (.int i4), .val (.ref a237), .val (.ref a255), .val (.int (Int32.ofNat f1)), .val (.int (Int32.ofNat (f1 + k1))), .val (.ref a261), .val (.int (Int32.ofNat k1)), .val (.int (1 : Int32)), .val (.int 1), .val (.int 1), .val (.int p), .val (.int ca), .val (.int cb), .val (.int q), .val (.ref a288), .val (.ref a343), .val (.ref a349), .val (.int (4 : Int32))]) (S' := [(.int (Int32.ofNat 4)), (.int (4 : Int32))]) rfl rfl rfl rfl rfl ?_
    refine icmpF (pc' := 451) at_448 (rfl : (4 : Int32) = (Int32.ofNat 4)) rfl ?_
    refine iconst (pc' := 452) (v := (1 : Int32)) at_451 rfl rfl ?_
    refine goto (pc' := 456) at_452 (by decide) rfl ?_
    exact retI at_456 rfl (Or.inr (Or.inl rfl)) rfl (by decide) (by decide) rfl
  · skip
    refine call (i := 63) (i2 := 33) (Wd := 0) (pc' := 425) (kVirt (i := 59) (i2 := 60) (i3 := 62) (i4 := 61) (C := "gatelayer/PathSegments") (a := a349) (argsL := []) (S' := []) (Wd := 0) at_422 rfl rfl rfl rfl (Pa3.1) (by decide) rfl pd_5 rfl rfl (Nat.le_of_ble_eq_true rfl)) (rm_len l Z a0 hw hEL n0 a349 bd2 a343 kbd2 1 (((3 : Int32) + 1) + 2) ((1 + 2) - (2 : Int32)) 2 [(.int ((1 : Int32) + 1)), (.int ((2 : Int32) + 1)), (.int (((2 : Int32) + 1) + 2)), (.int (((3 : Int32) + 1) + 2)), (.int (0 : Int32)), (.int (0 : Int32)), (.int (0 : Int32)), (.int (0 : Int32)), (.int (0 : Int32)), (.int (0 : Int32)), (.int (0 : Int32)), (.int (0 : Int32)), (.int (0 : Int32)), (.int (0 : Int32)), (.int (0 : Int32)), (.int (0 : Int32))] 4 _ Pa3 (by decide)) rfl rfl (by simp) (by decide) (by decide) (by decide) (by decide) rfl fun v_ h373 P374 sz375 => ?_
    obtain ⟨rfl, e376⟩ := P374
    rw [e376]
    refine at' (ce' := 12) (sl' := 85) (pc' := 425) (L' := #[.val (.int i0), .val (.int i1), .val (.int i2), .val (.int i3), .val (.int i4), .val (.ref a237), .val (.ref a255), .val (.int (Int32.ofNat f1)), .val (.int (Int32.ofNat (f1 + k1))), .val (.ref a261), .val (.int (Int32.ofNat k1)), .val (.int (1 : Int32)), .val (.int 1), .val (.int 2), .val (.int p), .val (.int ca), .val (.int cb), .val (.int q), .val (.ref a288), .val (.ref a343), .val (.ref a349), .unset]) (S' := [(.int (4 : Int32))]) rfl rfl rfl rfl rfl ?_
    refine istore (pc' := 427) (L' := #[.val (.int i0), .val (.int i1), .val (.int i2), .val (.int i3), .val (.int i4), .val (.ref a237), .val (.ref a255), .val (.int (Int32.ofNat f1)), .val (.int (Int32.ofNat (f1 + k1))), .val (.ref a261), .val (.int (Int32.ofNat k1)), .val (.int (1 : Int32)), .val (.int 1), .val (.int 2), .val (.int p), .val (.int ca), .val (.int cb), .val (.int q), .val (.ref a288), .val (.ref a343), .val (.ref a349), .val (.int (4 : Int32))]) at_425 rfl rfl ?_
    refine iload (pc' := 429) at_427 rfl rfl ?_
    refine ifF (pc' := 432) at_429 (by decide : ¬ ((1 : Int32) = (0 : Int32))) rfl ?_
    refine iload (pc' := 434) at_432 rfl rfl ?_
    refine iconst (pc' := 435) (v := (4 : Int32)) at_434 rfl rfl ?_
    refine icmpF (pc' := 438) at_435 (rfl : (4 : Int32) = (4 : Int32)) rfl ?_
    refine iload (pc' := 440) at_438 rfl rfl ?_
    refine aload (pc' := 442) at_440 rfl rfl rfl ?_
    refine call (i := 68) (i2 := 33) (Wd := 1) (pc' := 445) (kVirt (i := 64) (i2 := 65) (i3 := 67) (i4 := 66) (C := "gatelayer/PathSegments") (a := a349) (argsL := []) (S' := [(.int (4 : Int32))]) (Wd := 1) at_442 rfl rfl rfl rfl (Pa3.1) (by decide) rfl pd_23 rfl rfl (Nat.le_of_ble_eq_true rfl)) (rm_p2 l Z a0 hw hEL n0 a349 bd2 a343 kbd2 (1 : Int32) [(.int ((1 : Int32) + 1)), (.int ((2 : Int32) + 1)), (.int (((2 : Int32) + 1) + 2)), (.int (((3 : Int32) + 1) + 2)), (.int (0 : Int32)), (.int (0 : Int32)), (.int (0 : Int32)), (.int (0 : Int32)), (.int (0 : Int32)), (.int (0 : Int32)), (.int (0 : Int32)), (.int (0 : Int32)), (.int (0 : Int32)), (.int (0 : Int32)), (.int (0 : Int32)), (.int (0 : Int32))] cs2 2 5 _ hI (by decide) (by decide) (by omega) (congrArg Value.int (by decide : ((1 : Int32) + 1) = Int32.ofNat (2))) (congrArg Value.int (by decide : ((2 : Int32) + 1) = Int32.ofNat (2 + 1))) (congrArg Value.int (by decide : (((2 : Int32) + 1) + 2) = Int32.ofNat (5))) (congrArg Value.int (by decide : (((3 : Int32) + 1) + 2) = Int32.ofNat (5 + 1))) hB (by have q := Pa3; rw [show (((3 : Int32) + 1) + 2) = Int32.ofNat (5 + 1) from by decide, show ((1 + 2) - (2 : Int32)) = (1 : Int32) from by decide] at q; exact q) Sy2 (by omega) (by omega) (by decide) (by rw [hg2 5 (by decide)]; exact hcb7)) rfl rfl (by simp) (by decide) (by decide) (by decide) (by decide) rfl fun v_ h377 P378 sz379 => ?_
    obtain ⟨r9, ds9, rfl, X9, S9, hd9⟩ := P378
    refine at' (ce' := 16) (sl' := 101) (pc' := 445) (L' := #[.val (.int i0), .val (.int i1), .val (.int i2), .val (.int i3), .val (.int i4), .val (.ref a237), .val (.ref a255), .val (.int (Int32.ofNat f1)), .val (.int (Int32.ofNat (f1 + k1))), .val (.ref a261), .val (.int (Int32.ofNat k1)), .val (.int (1 : Int32)), .val (.int 1), .val (.int 2), .val (.int p), .val (.int ca), .val (.int cb), .val (.int q), .val (.ref a288), .val (.ref a343), .val (.ref a349), .val (.int (4 : Int32))]) (S' := [(.ref r9), (.int (4 : Int32))]) rfl rfl rfl rfl rfl ?_
    refine strLen (i := 2) (Wd := 1) (cs := ds9) (pc' := 448) hB (by decide +kernel) rfl (kVirt (i := 123) (i2 := 75) (i3 := 77) (i4 := 76) (C := "java/lang/String") (a := r9) (argsL := []) (S' := [(.int (4 : Int32))]) (Wd := 1) at_445 rfl rfl rfl rfl S9.exa (by decide) rfl pd_5 rfl rfl (Nat.le_of_ble_eq_true rfl)) S9 (by decide) (by decide) (by decide) (by decide) rfl ?_
    rw [show (ds9).length = 4 from hd9]
    refine at' (ce' := 16) (sl' := 101) (pc' := 448) (L' := #[.val (.int i0), .val (.int i1), .val (.int i2), .val (.int i3), .val (.int i4), .val (.ref a237), .val (.ref a255), .val (.int (Int32.ofNat f1)), .val (.int (Int32.ofNat (f1 + k1))), .val (.ref a261), .val (.int (Int32.ofNat k1)), .val (.int (1 : Int32)), .val (.int 1), .val (.int 2), .val (.int p), .val (.int ca), .val (.int cb), .val (.int q), .val (.ref a288), .val (.ref a343), .val (.ref a349), .val (.int (4 : Int32))]) (S' := [(.int (Int32.ofNat 4)), (.int (4 : Int32))]) rfl rfl rfl rfl rfl ?_
    refine icmpF (pc' := 451) at_448 (rfl : (4 : Int32) = (Int32.ofNat 4)) rfl ?_
    refine iconst (pc' := 452) (v := (1 : Int32)) at_451 rfl rfl ?_
    refine goto (pc' := 456) at_452 (by decide) rfl ?_
    exact retI at_456 rfl (Or.inr (Or.inl rfl)) rfl (by decide) (by decide) rfl
  · skip
    refine call (i := 63) (i2 := 33) (Wd := 0) (pc' := 425) (kVirt (i := 59) (i2 := 60) (i3 := 62) (i4 := 61) (C := "gatelayer/PathSegments") (a := a349) (argsL := []) (S' := []) (Wd := 0) at_422 rfl rfl rfl rfl (Pa3.1) (by decide) rfl pd_5 rfl rfl (Nat.le_of_ble_eq_true rfl)) (rm_len l Z a0 hw hEL n0 a349 bd2 a343 kbd2 1 (((3 : Int32) + 2) + 1) ((2 + 1) - (2 : Int32)) 2 [(.int ((1 : Int32) + 2)), (.int ((2 : Int32) + 2)), (.int (((2 : Int32) + 2) + 1)), (.int (((3 : Int32) + 2) + 1)), (.int (0 : Int32)), (.int (0 : Int32)), (.int (0 : Int32)), (.int (0 : Int32)), (.int (0 : Int32)), (.int (0 : Int32)), (.int (0 : Int32)), (.int (0 : Int32)), (.int (0 : Int32)), (.int (0 : Int32)), (.int (0 : Int32)), (.int (0 : Int32))] 4 _ Pa3 (by decide)) rfl rfl (by simp) (by decide) (by decide) (by decide) (by decide) rfl fun v_ h380 P381 sz382 => ?_
    obtain ⟨rfl, e383⟩ := P381
    rw [e383]
    refine at' (ce' := 12) (sl' := 85) (pc' := 425) (L' := #[.val (.int i0), .val (.int i1), .val (.int i2), .val (.int i3), .val (.int i4), .val (.ref a237), .val (.ref a255), .val (.int (Int32.ofNat f1)), .val (.int (Int32.ofNat (f1 + k1))), .val (.ref a261), .val (.int (Int32.ofNat k1)), .val (.int (1 : Int32)), .val (.int 2), .val (.int 1), .val (.int p), .val (.int ca), .val (.int cb), .val (.int q), .val (.ref a288), .val (.ref a343), .val (.ref a349), .unset]) (S' := [(.int (4 : Int32))]) rfl rfl rfl rfl rfl ?_
    refine istore (pc' := 427) (L' := #[.val (.int i0), .val (.int i1), .val (.int i2), .val (.int i3), .val (.int i4), .val (.ref a237), .val (.ref a255), .val (.int (Int32.ofNat f1)), .val (.int (Int32.ofNat (f1 + k1))), .val (.ref a261), .val (.int (Int32.ofNat k1)), .val (.int (1 : Int32)), .val (.int 2), .val (.int 1), .val (.int p), .val (.int ca), .val (.int cb), .val (.int q), .val (.ref a288), .val (.ref a343), .val (.ref a349), .val (.int (4 : Int32))]) at_425 rfl rfl ?_
    refine iload (pc' := 429) at_427 rfl rfl ?_
    refine ifF (pc' := 432) at_429 (by decide : ¬ ((1 : Int32) = (0 : Int32))) rfl ?_
    refine iload (pc' := 434) at_432 rfl rfl ?_
    refine iconst (pc' := 435) (v := (4 : Int32)) at_434 rfl rfl ?_
    refine icmpF (pc' := 438) at_435 (rfl : (4 : Int32) = (4 : Int32)) rfl ?_
    refine iload (pc' := 440) at_438 rfl rfl ?_
    refine aload (pc' := 442) at_440 rfl rfl rfl ?_
    refine call (i := 68) (i2 := 33) (Wd := 1) (pc' := 445) (kVirt (i := 64) (i2 := 65) (i3 := 67) (i4 := 66) (C := "gatelayer/PathSegments") (a := a349) (argsL := []) (S' := [(.int (4 : Int32))]) (Wd := 1) at_442 rfl rfl rfl rfl (Pa3.1) (by decide) rfl pd_23 rfl rfl (Nat.le_of_ble_eq_true rfl)) (rm_p2 l Z a0 hw hEL n0 a349 bd2 a343 kbd2 (1 : Int32) [(.int ((1 : Int32) + 2)), (.int ((2 : Int32) + 2)), (.int (((2 : Int32) + 2) + 1)), (.int (((3 : Int32) + 2) + 1)), (.int (0 : Int32)), (.int (0 : Int32)), (.int (0 : Int32)), (.int (0 : Int32)), (.int (0 : Int32)), (.int (0 : Int32)), (.int (0 : Int32)), (.int (0 : Int32)), (.int (0 : Int32)), (.int (0 : Int32)), (.int (0 : Int32)), (.int (0 : Int32))] cs2 3 5 _ hI (by decide) (by decide) (by omega) (congrArg Value.int (by decide : ((1 : Int32) + 2) = Int32.ofNat (3))) (congrArg Value.int (by decide : ((2 : Int32) + 2) = Int32.ofNat (3 + 1))) (congrArg Value.int (by decide : (((2 : Int32) + 2) + 1) = Int32.ofNat (5))) (congrArg Value.int (by decide : (((3 : Int32) + 2) + 1) = Int32.ofNat (5 + 1))) hB (by have q := Pa3; rw [show (((3 : Int32) + 2) + 1) = Int32.ofNat (5 + 1) from by decide, show ((2 + 1) - (2 : Int32)) = (1 : Int32) from by decide] at q; exact q) Sy2 (by omega) (by omega) (by decide) (by rw [hg2 5 (by decide)]; exact hcb7)) rfl rfl (by simp) (by decide) (by decide) (by decide) (by decide) rfl fun v_ h384 P385 sz386 => ?_
    obtain ⟨r9, ds9, rfl, X9, S9, hd9⟩ := P385
    refine at' (ce' := 16) (sl' := 101) (pc' := 445) (L' := #[.val (.int i0), .val (.int i1), .val (.int i2), .val (.int i3), .val (.int i4), .val (.ref a237), .val (.ref a255), .val (.int (Int32.ofNat f1)), .val (.int (Int32.ofNat (f1 + k1))), .val (.ref a261), .val (.int (Int32.ofNat k1)), .val (.int (1 : Int32)), .val (.int 2), .val (.int 1), .val (.int p), .val (.int ca), .val (.int cb), .val (.int q), .val (.ref a288), .val (.ref a343), .val (.ref a349), .val (.int (4 : Int32))]) (S' := [(.ref r9), (.int (4 : Int32))]) rfl rfl rfl rfl rfl ?_
    refine strLen (i := 2) (Wd := 1) (cs := ds9) (pc' := 448) hB (by decide +kernel) rfl (kVirt (i := 123) (i2 := 75) (i3 := 77) (i4 := 76) (C := "java/lang/String") (a := r9) (argsL := []) (S' := [(.int (4 : Int32))]) (Wd := 1) at_445 rfl rfl rfl rfl S9.exa (by decide) rfl pd_5 rfl rfl (Nat.le_of_ble_eq_true rfl)) S9 (by decide) (by decide) (by decide) (by decide) rfl ?_
    rw [show (ds9).length = 4 from hd9]
    refine at' (ce' := 16) (sl' := 101) (pc' := 448) (L' := #[.val (.int i0), .val (.int i1), .val (.int i2), .val (.int i3), .val (.int i4), .val (.ref a237), .val (.ref a255), .val (.int (Int32.ofNat f1)), .val (.int (Int32.ofNat (f1 + k1))), .val (.ref a261), .val (.int (Int32.ofNat k1)), .val (.int (1 : Int32)), .val (.int 2), .val (.int 1), .val (.int p), .val (.int ca), .val (.int cb), .val (.int q), .val (.ref a288), .val (.ref a343), .val (.ref a349), .val (.int (4 : Int32))]) (S' := [(.int (Int32.ofNat 4)), (.int (4 : Int32))]) rfl rfl rfl rfl rfl ?_
    refine icmpF (pc' := 451) at_448 (rfl : (4 : Int32) = (Int32.ofNat 4)) rfl ?_
    refine iconst (pc' := 452) (v := (1 : Int32)) at_451 rfl rfl ?_
    refine goto (pc' := 456) at_452 (by decide) rfl ?_
    exact retI at_456 rfl (Or.inr (Or.inl rfl)) rfl (by decide) (by decide) rfl
  · skip
    refine call (i := 63) (i2 := 33) (Wd := 0) (pc' := 425) (kVirt (i := 59) (i2 := 60) (i3 := 62) (i4 := 61) (C := "gatelayer/PathSegments") (a := a349) (argsL := []) (S' := []) (Wd := 0) at_422 rfl rfl rfl rfl (Pa3.1) (by decide) rfl pd_5 rfl rfl (Nat.le_of_ble_eq_true rfl)) (rm_len l Z a0 hw hEL n0 a349 bd2 a343 kbd2 1 (((3 : Int32) + 2) + 2) ((2 + 2) - (2 : Int32)) 2 [(.int ((1 : Int32) + 2)), (.int ((2 : Int32) + 2)), (.int (((2 : Int32) + 2) + 2)), (.int (((3 : Int32) + 2) + 2)), (.int (0 : Int32)), (.int (0 : Int32)), (.int (0 : Int32)), (.int (0 : Int32)), (.int (0 : Int32)), (.int (0 : Int32)), (.int (0 : Int32)), (.int (0 : Int32)), (.int (0 : Int32)), (.int (0 : Int32)), (.int (0 : Int32)), (.int (0 : Int32))] 4 _ Pa3 (by decide)) rfl rfl (by simp) (by decide) (by decide) (by decide) (by decide) rfl fun v_ h387 P388 sz389 => ?_
    obtain ⟨rfl, e390⟩ := P388
    rw [e390]
    refine at' (ce' := 12) (sl' := 85) (pc' := 425) (L' := #[.val (.int i0), .val (.int i1), .val (.int i2), .val (.int i3), .val (.int i4), .val (.ref a237), .val (.ref a255), .val (.int (Int32.ofNat f1)), .val (.int (Int32.ofNat (f1 + k1))), .val (.ref a261), .val (.int (Int32.ofNat k1)), .val (.int (1 : Int32)), .val (.int 2), .val (.int 2), .val (.int p), .val (.int ca), .val (.int cb), .val (.int q), .val (.ref a288), .val (.ref a343), .val (.ref a349), .unset]) (S' := [(.int (4 : Int32))]) rfl rfl rfl rfl rfl ?_
    refine istore (pc' := 427) (L' := #[.val (.int i0), .val (.int i1), .val (.int i2), .val (.int i3), .val (.int i4), .val (.ref a237), .val (.ref a255), .val (.int (Int32.ofNat f1)), .val (.int (Int32.ofNat (f1 + k1))), .val (.ref a261), .val (.int (Int32.ofNat k1)), .val (.int (1 : Int32)), .val (.int 2), .val (.int 2), .val (.int p), .val (.int ca), .val (.int cb), .val (.int q), .val (.ref a288), .val (.ref a343), .val (.ref a349), .val (.int (4 : Int32))]) at_425 rfl rfl ?_
    refine iload (pc' := 429) at_427 rfl rfl ?_
    refine ifF (pc' := 432) at_429 (by decide : ¬ ((1 : Int32) = (0 : Int32))) rfl ?_
    refine iload (pc' := 434) at_432 rfl rfl ?_
    refine iconst (pc' := 435) (v := (4 : Int32)) at_434 rfl rfl ?_
    refine icmpF (pc' := 438) at_435 (rfl : (4 : Int32) = (4 : Int32)) rfl ?_
    refine iload (pc' := 440) at_438 rfl rfl ?_
    refine aload (pc' := 442) at_440 rfl rfl rfl ?_
    refine call (i := 68) (i2 := 33) (Wd := 1) (pc' := 445) (kVirt (i := 64) (i2 := 65) (i3 := 67) (i4 := 66) (C := "gatelayer/PathSegments") (a := a349) (argsL := []) (S' := [(.int (4 : Int32))]) (Wd := 1) at_442 rfl rfl rfl rfl (Pa3.1) (by decide) rfl pd_23 rfl rfl (Nat.le_of_ble_eq_true rfl)) (rm_p2 l Z a0 hw hEL n0 a349 bd2 a343 kbd2 (2 : Int32) [(.int ((1 : Int32) + 2)), (.int ((2 : Int32) + 2)), (.int (((2 : Int32) + 2) + 2)), (.int (((3 : Int32) + 2) + 2)), (.int (0 : Int32)), (.int (0 : Int32)), (.int (0 : Int32)), (.int (0 : Int32)), (.int (0 : Int32)), (.int (0 : Int32)), (.int (0 : Int32)), (.int (0 : Int32)), (.int (0 : Int32)), (.int (0 : Int32)), (.int (0 : Int32)), (.int (0 : Int32))] cs2 3 6 _ hI (by decide) (by decide) (by omega) (congrArg Value.int (by decide : ((1 : Int32) + 2) = Int32.ofNat (3))) (congrArg Value.int (by decide : ((2 : Int32) + 2) = Int32.ofNat (3 + 1))) (congrArg Value.int (by decide : (((2 : Int32) + 2) + 2) = Int32.ofNat (6))) (congrArg Value.int (by decide : (((3 : Int32) + 2) + 2) = Int32.ofNat (6 + 1))) hB (by have q := Pa3; rw [show (((3 : Int32) + 2) + 2) = Int32.ofNat (6 + 1) from by decide, show ((2 + 2) - (2 : Int32)) = (2 : Int32) from by decide] at q; exact q) Sy2 (by omega) (by omega) (by decide) (by rw [hg2 6 (by decide)]; exact hcb7)) rfl rfl (by simp) (by decide) (by decide) (by decide) (by decide) rfl fun v_ h391 P392 sz393 => ?_
    obtain ⟨r9, ds9, rfl, X9, S9, hd9⟩ := P392
    refine at' (ce' := 16) (sl' := 101) (pc' := 445) (L' := #[.val (.int i0), .val (.int i1), .val (.int i2), .val (.int i3), .val (.int i4), .val (.ref a237), .val (.ref a255), .val (.int (Int32.ofNat f1)), .val (.int (Int32.ofNat (f1 + k1))), .val (.ref a261), .val (.int (Int32.ofNat k1)), .val (.int (1 : Int32)), .val (.int 2), .val (.int 2), .val (.int p), .val (.int ca), .val (.int cb), .val (.int q), .val (.ref a288), .val (.ref a343), .val (.ref a349), .val (.int (4 : Int32))]) (S' := [(.ref r9), (.int (4 : Int32))]) rfl rfl rfl rfl rfl ?_
    refine strLen (i := 2) (Wd := 1) (cs := ds9) (pc' := 448) hB (by decide +kernel) rfl (kVirt (i := 123) (i2 := 75) (i3 := 77) (i4 := 76) (C := "java/lang/String") (a := r9) (argsL := []) (S' := [(.int (4 : Int32))]) (Wd := 1) at_445 rfl rfl rfl rfl S9.exa (by decide) rfl pd_5 rfl rfl (Nat.le_of_ble_eq_true rfl)) S9 (by decide) (by decide) (by decide) (by decide) rfl ?_
    rw [show (ds9).length = 4 from hd9]
    refine at' (ce' := 16) (sl' := 101) (pc' := 448) (L' := #[.val (.int i0), .val (.int i1), .val (.int i2), .val (.int i3), .val (.int i4), .val (.ref a237), .val (.ref a255), .val (.int (Int32.ofNat f1)), .val (.int (Int32.ofNat (f1 + k1))), .val (.ref a261), .val (.int (Int32.ofNat k1)), .val (.int (1 : Int32)), .val (.int 2), .val (.int 2), .val (.int p), .val (.int ca), .val (.int cb), .val (.int q), .val (.ref a288), .val (.ref a343), .val (.ref a349), .val (.int (4 : Int32))]) (S' := [(.int (Int32.ofNat 4)), (.int (4 : Int32))]) rfl rfl rfl rfl rfl ?_
    refine icmpF (pc' := 451) at_448 (rfl : (4 : Int32) = (Int32.ofNat 4)) rfl ?_
    refine iconst (pc' := 452) (v := (1 : Int32)) at_451 rfl rfl ?_
    refine goto (pc' := 456) at_452 (by decide) rfl ?_
    exact retI at_456 rfl (Or.inr (Or.inl rfl)) rfl (by decide) (by decide) rfl
set_option maxRecDepth 65536 in
set_option maxHeartbeats 40000000 in
theorem comes_1 {Post : Tables → Env → Array Value → State → Outcome → State → Prop} (hpost : ∀ tb e args s v u, (limb_1_1.after args s (.returned v) u = true ∧ limb_1_2.after args s (.returned v) u = true ∧ True) → ReturnedEndW s (.returned v) u (Jvm.fieldLocs frame_1_writes args s ++ Jvm.arrayLocs frame_1_arrays args s ++ Jvm.staticLocs frame_1_statics s) 48 1344 → Post tb e args s (.returned v) u) :
    ArmFor flags0 classFile x code maxLocals ret World_1 tables_1 room_1 Calls_1 rest_1 Pre_1 Post := by
  intro l hfl _ _ p e ha hc hk s m args below hf hA hF happ hP
  obtain ⟨hcalls, hrest, hpre⟩ := hP
  obtain ⟨-, -, -, hnamed, -, -, -, hat⟩ := (Spec.applies_iff hf).mp happ
  obtain ⟨hg, hn⟩ := and_e (Cond.before_iff.mp (show (Jvm.Cond.and given_1 narrow_1).before args s = true from hpre))
  obtain ⟨hcount, hg0⟩ := and_e hg
  obtain ⟨ga0, hg1⟩ := and_e hg0
  obtain ⟨ga1, hg2⟩ := and_e hg1
  obtain ⟨ga2, hg3⟩ := and_e hg2
  obtain ⟨ga3, hg4⟩ := and_e hg3
  have ga4 := hg4
  obtain ⟨w0, w1, w2, w3, w4, rfl⟩ : ∃ w0 w1 w2 w3 w4 : Value, args = #[w0, w1, w2, w3, w4] := by
    have hs : args.size = 5 := by simpa [Cond.value, given_1] using hcount
    obtain ⟨L⟩ := args
    match L, hs with
    | [w0, w1, w2, w3, w4], _ => exact ⟨w0, w1, w2, w3, w4, rfl⟩
  have hw := fun d (hd : d ∈ tables_1) => atoms_spec (ws := Jvm.Cond.code x code maxLocals ret :: tables_1) hat d (List.mem_cons_of_mem _ hd)
  have hfit : Fit s := fun {y c} hc i hi => by
    obtain ⟨ha, rfl⟩ := Array.getElem?_eq_some_iff.mp hc
    have q := List.all_eq_true.mp ((Array.all_eq_true_iff_forall_mem.mp hF) _ (Array.getElem_mem ha)) i (List.mem_range.mpr hi)
    simpa [Array.getElem?_eq_getElem hi] using q
  obtain ⟨hsets, hown0⟩ := atoms_of _ (rest_1_c_eq ▸ (show rest_1_c.before _ s = true from hrest))
  obtain ⟨i0, ei0⟩ := is_v ga0
  obtain rfl : w0 = (.int i0) := Option.some.inj ei0
  obtain ⟨i1, ei1⟩ := is_v ga1
  obtain rfl : w1 = (.int i1) := Option.some.inj ei1
  obtain ⟨i2, ei2⟩ := is_v ga2
  obtain rfl : w2 = (.int i2) := Option.some.inj ei2
  obtain ⟨i3, ei3⟩ := is_v ga3
  obtain rfl : w3 = (.int i3) := Option.some.inj ei3
  obtain ⟨i4, ei4⟩ := is_v ga4
  obtain rfl : w4 = (.int i4) := Option.some.inj ei4
  obtain ⟨zc, ezc⟩ := is_v (Cond.before_iff.mp (hsets _ (List.mem_of_getElem? (i := 1) rfl)))
  have nzc := not_v (Cond.before_iff.mp (hsets _ (List.mem_of_getElem? (i := 2) rfl)))
  have Szc : Sta s s.heap "java/lang/String" "COMPACT_STRINGS" "Z" (.int zc) := Sta.start ezc (Or.inl (hsets _ (List.mem_of_getElem? (i := 0) rfl)))
  obtain ⟨fm, efm, rfm⟩ := isR_v (Cond.before_iff.mp (hsets _ (List.mem_of_getElem? (i := 8) rfl)))
  have Sfm : Sta s s.heap "jdk/internal/util/Preconditions" "SIOOBE_FORMATTER" "Ljava/util/function/BiFunction;" fm := Sta.start efm (Or.inl (hsets _ (List.mem_of_getElem? (i := 7) rfl)))
  have hzc : ¬ (zc = (0 : Int32)) := gotF (Cond.eq_ints ezc (Term.int_eval (0))) nzc
  have hB : Sets s := ⟨zc, fm, Szc, hzc, Sfm, rfm⟩
  have hEL : EW s _ consts_1 := EW.cons (hw _ (List.mem_of_getElem? (i := 140) rfl)) (by simp) EW.nil
  have hCHv : CHv s consts_1 s.vm s.heap := CHv.start hEL (fun p hp => hcalls.1 p hp) (hsets _ (List.mem_of_getElem? (i := 2) rfl)) (hw _ (List.mem_of_getElem? (i := 19) rfl)) (hw _ (List.mem_of_getElem? (i := 2) rfl))
  have hI : Iof s := iof_start hfit (hw _ (List.mem_of_getElem? (i := 88) rfl)) (hw _ (List.mem_of_getElem? (i := 214) rfl))
  obtain ⟨n, o, h1, h2, h3, v, L, rfl, ⟨rfl, N, -⟩, hCH, hE, hWm⟩ := law_met l s _ hw hEL s.heap.size i0 i1 i2 i3 i4 s.heap hB hI p e ha hc hk s m _ below hf ((Spec.applies_iff_loose hf).mp happ).1 ⟨rfl, State.Warmed39.refl s, rfl, hCHv, Old.start s, fun x q => nomatch q⟩ trivial
  refine ⟨n, _, h1, h2, h3, hpost _ _ _ _ _ _ ⟨Cond.after_iff.mpr rfl, Cond.after_iff.mpr (eq_i res_at (Term.int_eval (1)) rfl), trivial⟩ ⟨hE.1, hE.2.1, hE.2.2.1, (hE.2.2.2.sift fun y hy => Or.inr (N y hy)).mono (by decide) (by decide)⟩⟩
theorem main_1_1 : Claimed_1_1 := comes_1 fun _ _ _ _ _ _ h hF => ⟨h.1, hF⟩
theorem main_1_2 : Claimed_1_2 := comes_1 fun _ _ _ _ _ _ h hF => ⟨h.2.1, hF⟩
end Jvm.Pilot.@@N@@
namespace Jvm.Pilot.@@N@@
open Jvm Jvm.ClassFile Sem Op Lib Jvm.Free Jvm.Stand Jvm.Pilot.@@N@@.Jvm.D
/-! MADE BY PROGRAM (witnessworld.py) out of the Statement's table words and the real class files: 26 classes; the members and pool entries that the words name. The judged class is class 1, her method 3. -/
namespace start1
open Jvm.ClassFile
def u (s : String) : CpInfo := .utf8 (stringToUtf16 s)
/-- a pool by its gaps: so many unusable entries, then the entry; so many at the end -/
def gap : Nat → List CpInfo → List CpInfo
  | 0, r => r
  | n + 1, r => .unusable :: gap n r
def poolList (es : List (Nat × CpInfo)) (last : Nat) : List CpInfo := es.foldr (fun e r => gap e.1 (e.2 :: r)) (gap last [])
def pool (es : List (Nat × CpInfo)) (last : Nat) : Array CpInfo := ⟨poolList es last⟩
def fileOf (pool : Array CpInfo) (this : Nat) (attrs : Array Attribute := #[]) (ms : Array MethodInfo := #[]) (fl : Nat := 33) (sup : Nat := 0) (ifs : Array Nat := #[]) (fds : Array FieldInfo := #[]) : ClassFile where
  minorVersion := 0
  majorVersion := 65
  constantPool := pool
  accessFlags := fl
  thisClass := this
  superClass := sup
  interfaces := ifs
  fields := fds
  methods := ms
  attributes := attrs
def plain (name : String) (sup : Option ClassId) : Class where
  name := name
  kind := .ordinary
  loader := none
  accessFlags := 33
  super := sup
  interfaces := #[]
  cf := none
  fields := #[]
  methods := #[]
  instanceTypes := #[]
  staticTypes := #[]
  resolved := #[]
  callSites := []
  init := .initialized
  statics := none
  mirror := none

def pool0 : Array CpInfo := pool [(5, u "<init>"), (0, u "()V"), (1, .class_ 10), (1, u "java/lang/Object"), (85, u "clone"), (0, u "()Ljava/lang/Object;")] 26

def k0c0 : Code := { maxStack := 0, maxLocals := 1, code := object_method_1_code, exceptionTable := #[], attributes := #[] }
def k0m0 : Method := { name := "<init>", desc := "()V", sig := { parameters := [], returnType := none }, accessFlags := 1, code := some k0c0 }
def k0m1 : Method := { name := "clone", desc := "()Ljava/lang/Object;", sig := { parameters := [], returnType := some (.object "java/lang/Object") }, accessFlags := 260, code := none }
/-- java/lang/Object -/
def k0 : Class := { plain "java/lang/Object" none with
  accessFlags := 33
  interfaces := #[]
  cf := some (fileOf pool0 8 #[] #[{ accessFlags := 1, nameIndex := 5, descriptorIndex := 6, attributes := #[] }, { accessFlags := 260, nameIndex := 96, descriptorIndex := 97, attributes := #[] }] 33 0 #[] #[])
  fields := #[]
  methods := #[k0m0, k0m1]
  instanceTypes := #[]
  staticTypes := #[]
  resolved := Array.replicate 124 none
  statics := none }

def pool1 : Array CpInfo := pool [(2, .class_ 4), (1, u "java/lang/Object"), (0, u "<init>"), (0, u "()V"), (0, .class_ 8), (0, u "java/lang/String"), (0, .methodref 7 10), (0, .nameAndType 5 11), (0, u "([C)V"), (0, .integer 2147483647), (0, .class_ 14), (0, u "gatelayer/PathSegments"), (0, .methodref 13 16), (0, .nameAndType 5 17), (0, u "(Ljava/lang/String;I)V"), (0, .methodref 13 19), (0, .nameAndType 20 21), (0, u "endsAt"), (0, u "(I)Lgatelayer/PathSegments;"), (0, .methodref 13 23), (0, .nameAndType 24 25), (0, u "length"), (0, u "()I"), (0, .methodref 13 27), (0, .nameAndType 28 29), (0, u "path"), (0, u "()Ljava/lang/String;"), (0, .methodref 7 23), (0, .methodref 32 33), (0, .class_ 34), (0, .nameAndType 35 36), (0, u "gatelayer/PathSegmentsLengthPinLaw"), (0, u "slashless"), (0, u "(I)C"), (0, .methodref 32 38), (0, .nameAndType 39 40), (0, u "at"), (0, u "(IIICCCC)C"), (0, .methodref 13 42), (0, .nameAndType 43 44), (0, u "add"), (0, u "(II)V"), (0, .methodref 13 46), (0, .nameAndType 20 47), (0, u "(II)Lgatelayer/PathSegments;"), (3, u "law"), (0, u "(IIIII)Z")] 4

def k1m0 : Method := { name := "<init>", desc := "()V", sig := { parameters := [], returnType := none }, accessFlags := 1, code := none }
def k1c1 : Code := { maxStack := 2, maxLocals := 2, code := method_2_code, exceptionTable := #[], attributes := #[] }
def k1m1 : Method := { name := "slashless", desc := "(I)C", sig := { parameters := [.int], returnType := some .char }, accessFlags := 10, code := some k1c1 }
def k1c2 : Code := { maxStack := 3, maxLocals := 7, code := method_3_code, exceptionTable := #[], attributes := #[] }
def k1m2 : Method := { name := "at", desc := "(IIICCCC)C", sig := { parameters := [.int, .int, .int, .char, .char, .char, .char], returnType := some .char }, accessFlags := 10, code := some k1c2 }
def k1c3 : Code := { maxStack := 9, maxLocals := 22, code := code, exceptionTable := #[], attributes := #[] }
def k1m3 : Method := { name := "law", desc := "(IIIII)Z", sig := { parameters := [.int, .int, .int, .int, .int], returnType := some .boolean }, accessFlags := 9, code := some k1c3 }
/-- gatelayer/PathSegmentsLengthPinLaw -/
def k1 : Class := { plain "gatelayer/PathSegmentsLengthPinLaw" (some 0) with
  accessFlags := 49
  interfaces := #[]
  cf := some (fileOf pool1 32 #[] #[{ accessFlags := 1, nameIndex := 5, descriptorIndex := 6, attributes := #[] }, { accessFlags := 10, nameIndex := 35, descriptorIndex := 36, attributes := #[] }, { accessFlags := 10, nameIndex := 39, descriptorIndex := 40, attributes := #[] }, { accessFlags := 9, nameIndex := 51, descriptorIndex := 52, attributes := #[] }] 49 2 #[] #[])
  fields := #[]
  methods := #[k1m0, k1m1, k1m2, k1m3]
  instanceTypes := #[]
  staticTypes := #[]
  resolved := Array.replicate 57 none
  statics := none }

def pool2 : Array CpInfo := pool [(1, .class_ 2), (0, u "java/io/Serializable"), (0, .class_ 4), (0, u "java/lang/Object")] 2

/-- java/io/Serializable -/
def k2 : Class := { plain "java/io/Serializable" (some 0) with
  accessFlags := 1537
  interfaces := #[]
  cf := some (fileOf pool2 1 #[] #[] 1537 3 #[] #[])
  fields := #[]
  methods := #[]
  instanceTypes := #[]
  staticTypes := #[]
  resolved := Array.replicate 7 none
  statics := none }

def pool3 : Array CpInfo := pool [(1, .class_ 2), (0, u "java/lang/Comparable"), (0, .class_ 4), (0, u "java/lang/Object")] 7

/-- java/lang/Comparable -/
def k3 : Class := { plain "java/lang/Comparable" (some 0) with
  accessFlags := 1537
  interfaces := #[]
  cf := some (fileOf pool3 1 #[] #[] 1537 3 #[] #[])
  fields := #[]
  methods := #[]
  instanceTypes := #[]
  staticTypes := #[]
  resolved := Array.replicate 12 none
  statics := none }

def pool4 : Array CpInfo := pool [(2, .class_ 4), (1, u "java/lang/CharSequence"), (0, u "length"), (0, u "()I"), (40, .class_ 48), (0, u "java/lang/CharSequence$1CodePointIterator"), (10, .class_ 60), (0, u "java/lang/CharSequence$1CharIterator"), (5, .class_ 67), (0, u "java/lang/Object")] 63

def k4m0 : Method := { name := "length", desc := "()I", sig := { parameters := [], returnType := some .int }, accessFlags := 1025, code := none }
/-- java/lang/CharSequence -/
def k4 : Class := { plain "java/lang/CharSequence" (some 0) with
  accessFlags := 1537
  interfaces := #[]
  cf := some (fileOf pool4 2 #[.nestMembers #[47, 59]] #[{ accessFlags := 1025, nameIndex := 5, descriptorIndex := 6, attributes := #[] }] 1537 66 #[] #[])
  fields := #[]
  methods := #[k4m0]
  instanceTypes := #[]
  staticTypes := #[]
  resolved := Array.replicate 131 none
  statics := none }

def pool5 : Array CpInfo := pool [(1, .class_ 2), (0, u "java/lang/constant/Constable"), (0, .class_ 4), (0, u "java/lang/Object")] 6

/-- java/lang/constant/Constable -/
def k5 : Class := { plain "java/lang/constant/Constable" (some 0) with
  accessFlags := 1537
  interfaces := #[]
  cf := some (fileOf pool5 1 #[] #[] 1537 3 #[] #[])
  fields := #[]
  methods := #[]
  instanceTypes := #[]
  staticTypes := #[]
  resolved := Array.replicate 11 none
  statics := none }

def pool6 : Array CpInfo := pool [(1, .class_ 2), (0, u "java/lang/constant/ConstantDesc"), (0, .class_ 4), (0, u "java/lang/Object")] 32

/-- java/lang/constant/ConstantDesc -/
def k6 : Class := { plain "java/lang/constant/ConstantDesc" (some 0) with
  accessFlags := 1537
  interfaces := #[]
  cf := some (fileOf pool6 1 #[] #[] 1537 3 #[] #[])
  fields := #[]
  methods := #[]
  instanceTypes := #[]
  staticTypes := #[]
  resolved := Array.replicate 37 none
  statics := none }

def pool7 : Array CpInfo := pool [(1, .methodref 2 3), (0, .class_ 4), (0, .nameAndType 5 6), (0, u "java/lang/Object"), (0, u "<init>"), (0, u "()V"), (2, .fieldref 10 11), (0, .class_ 12), (0, .nameAndType 13 14), (0, u "java/lang/String"), (0, u "value"), (0, u "[B"), (0, .fieldref 10 16), (0, .nameAndType 17 18), (0, u "coder"), (0, u "B"), (2, u "hash"), (0, u "I"), (2, u "hashIsZero"), (0, u "Z"), (0, .methodref 10 28), (0, .nameAndType 5 29), (0, u "([CIILjava/lang/Void;)V"), (8, .fieldref 10 39), (0, .nameAndType 40 26), (0, u "COMPACT_STRINGS"), (1, .class_ 44), (1, u "java/lang/StringUTF16"), (0, u "compress"), (1, .methodref 42 48), (0, .nameAndType 49 50), (0, u "coderFromArrayLen"), (0, u "([BI)B"), (3, .methodref 55 56), (0, .class_ 57), (0, .nameAndType 58 59), (0, u "java/util/Arrays"), (0, u "copyOfRange"), (0, u "([BII)[B"), (47, .class_ 109), (1, u "java/lang/StringLatin1"), (32, u "()Z"), (34, .methodref 42 178), (0, .nameAndType 45 179), (0, u "([CII)[B"), (31, u "([BB)V"), (122, u "()I"), (0, .methodref 10 336), (0, .nameAndType 17 337), (0, u "()B"), (2, u "()[B"), (22, u "([BI)C"), (27, u "(II)V"), (35, u "(I)C"), (61, .methodref 10 490), (0, .nameAndType 5 491), (0, u "(Ljava/lang/AbstractStringBuilder;Ljava/lang/Void;)V"), (0, .methodref 10 493), (0, .nameAndType 494 142), (0, u "isLatin1"), (0, .methodref 107 496), (0, .nameAndType 497 363), (0, u "charAt"), (3, u "checkIndex"), (3, .methodref 10 506), (0, .nameAndType 507 334), (0, u "length"), (5, u "checkFromToIndex"), (7, .methodref 10 522), (0, .nameAndType 523 524), (0, u "checkBoundsBeginEnd"), (0, u "(III)V"), (24, .methodref 550 506), (0, .class_ 551), (0, u "java/lang/AbstractStringBuilder"), (0, .methodref 550 553), (0, .nameAndType 554 340), (0, u "getValue"), (20, .class_ 576), (0, u "java/lang/CharSequence"), (22, u "CASE_INSENSITIVE_ORDER"), (0, u "Ljava/util/Comparator;"), (82, u "substring"), (0, u "(II)Ljava/lang/String;"), (0, .methodref 107 686), (0, .nameAndType 687 688), (0, u "newString"), (0, u "([BII)Ljava/lang/String;"), (321, u "([C)V"), (36, .methodref 550 493), (5, .fieldref 1054 1055), (0, .class_ 1056), (0, .nameAndType 1057 1058), (0, u "jdk/internal/util/Preconditions"), (0, u "SIOOBE_FORMATTER"), (0, u "Ljava/util/function/BiFunction;"), (0, .methodref 1054 1060), (0, .nameAndType 501 1061), (0, u "(IILjava/util/function/BiFunction;)I"), (0, .methodref 1054 1063), (0, .nameAndType 513 1064), (0, u "(IIILjava/util/function/BiFunction;)I"), (36, u "serialPersistentFields"), (0, u "[Ljava/io/ObjectStreamField;"), (0, .class_ 1104), (0, u "java/lang/String$CaseInsensitiveComparator"), (1, .class_ 1107), (0, u "java/io/Serializable"), (0, .class_ 1109), (0, u "java/lang/Comparable"), (0, .class_ 1111), (0, u "java/lang/constant/Constable"), (0, .class_ 1113), (0, u "java/lang/constant/ConstantDesc"), (2, u "serialVersionUID"), (0, u "J"), (3, u "REPL"), (0, u "C"), (2, u "LATIN1"), (1, u "UTF16"), (105, u "(Ljava/lang/StringBuilder;)V")] 217

def k7m0 : Method := { name := "<init>", desc := "()V", sig := { parameters := [], returnType := none }, accessFlags := 1, code := none }
def k7c1 : Code := { maxStack := 5, maxLocals := 2, code := jdk_42_method_3_code, exceptionTable := #[], attributes := #[] }
def k7m1 : Method := { name := "<init>", desc := "([C)V", sig := { parameters := [(.array .char)], returnType := none }, accessFlags := 1, code := some k7c1 }
def k7c2 : Code := { maxStack := 3, maxLocals := 2, code := jdk_42_method_53_code, exceptionTable := #[], attributes := #[] }
def k7m2 : Method := { name := "<init>", desc := "(Ljava/lang/StringBuilder;)V", sig := { parameters := [(.object "java/lang/StringBuilder")], returnType := none }, accessFlags := 1, code := some k7c2 }
def k7c3 : Code := { maxStack := 2, maxLocals := 1, code := jdk_42_method_54_code, exceptionTable := #[], attributes := #[] }
def k7m3 : Method := { name := "length", desc := "()I", sig := { parameters := [], returnType := some .int }, accessFlags := 1, code := some k7c3 }
def k7c4 : Code := { maxStack := 2, maxLocals := 2, code := jdk_42_method_56_code, exceptionTable := #[], attributes := #[] }
def k7m4 : Method := { name := "charAt", desc := "(I)C", sig := { parameters := [.int], returnType := some .char }, accessFlags := 1, code := some k7c4 }
def k7c5 : Code := { maxStack := 3, maxLocals := 5, code := jdk_42_method_92_code, exceptionTable := #[], attributes := #[] }
def k7m5 : Method := { name := "substring", desc := "(II)Ljava/lang/String;", sig := { parameters := [.int, .int], returnType := some (.object "java/lang/String") }, accessFlags := 1, code := some k7c5 }
def k7c6 : Code := { maxStack := 4, maxLocals := 6, code := jdk_42_method_149_code, exceptionTable := #[], attributes := #[] }
def k7m6 : Method := { name := "<init>", desc := "([CIILjava/lang/Void;)V", sig := { parameters := [(.array .char), .int, .int, (.object "java/lang/Void")], returnType := none }, accessFlags := 2, code := some k7c6 }
def k7c7 : Code := { maxStack := 5, maxLocals := 5, code := jdk_42_method_150_code, exceptionTable := #[], attributes := #[] }
def k7m7 : Method := { name := "<init>", desc := "(Ljava/lang/AbstractStringBuilder;Ljava/lang/Void;)V", sig := { parameters := [(.object "java/lang/AbstractStringBuilder"), (.object "java/lang/Void")], returnType := none }, accessFlags := 0, code := some k7c7 }
def k7c8 : Code := { maxStack := 2, maxLocals := 3, code := jdk_42_method_151_code, exceptionTable := #[], attributes := #[] }
def k7m8 : Method := { name := "<init>", desc := "([BB)V", sig := { parameters := [(.array .byte), .byte], returnType := none }, accessFlags := 0, code := some k7c8 }
def k7c9 : Code := { maxStack := 1, maxLocals := 1, code := jdk_42_method_152_code, exceptionTable := #[], attributes := #[] }
def k7m9 : Method := { name := "coder", desc := "()B", sig := { parameters := [], returnType := some .byte }, accessFlags := 0, code := some k7c9 }
def k7c10 : Code := { maxStack := 1, maxLocals := 1, code := jdk_42_method_153_code, exceptionTable := #[], attributes := #[] }
def k7m10 : Method := { name := "value", desc := "()[B", sig := { parameters := [], returnType := some (.array .byte) }, accessFlags := 0, code := some k7c10 }
def k7c11 : Code := { maxStack := 1, maxLocals := 1, code := jdk_42_method_154_code, exceptionTable := #[], attributes := #[] }
def k7m11 : Method := { name := "isLatin1", desc := "()Z", sig := { parameters := [], returnType := some .boolean }, accessFlags := 0, code := some k7c11 }
def k7c12 : Code := { maxStack := 3, maxLocals := 2, code := jdk_42_method_155_code, exceptionTable := #[], attributes := #[] }
def k7m12 : Method := { name := "checkIndex", desc := "(II)V", sig := { parameters := [.int, .int], returnType := none }, accessFlags := 8, code := some k7c12 }
def k7c13 : Code := { maxStack := 4, maxLocals := 3, code := jdk_42_method_158_code, exceptionTable := #[], attributes := #[] }
def k7m13 : Method := { name := "checkBoundsBeginEnd", desc := "(III)V", sig := { parameters := [.int, .int, .int], returnType := none }, accessFlags := 8, code := some k7c13 }
/-- java/lang/String -/
def k7 : Class := { plain "java/lang/String" (some 0) with
  accessFlags := 49
  interfaces := #[2, 3, 4, 5, 6]
  cf := some (fileOf pool7 10 #[.nestMembers #[1103]] #[{ accessFlags := 1, nameIndex := 5, descriptorIndex := 6, attributes := #[] }, { accessFlags := 1, nameIndex := 5, descriptorIndex := 1010, attributes := #[] }, { accessFlags := 1, nameIndex := 5, descriptorIndex := 1233, attributes := #[] }, { accessFlags := 1, nameIndex := 507, descriptorIndex := 334, attributes := #[] }, { accessFlags := 1, nameIndex := 497, descriptorIndex := 427, attributes := #[] }, { accessFlags := 1, nameIndex := 683, descriptorIndex := 684, attributes := #[] }, { accessFlags := 2, nameIndex := 5, descriptorIndex := 29, attributes := #[] }, { accessFlags := 0, nameIndex := 5, descriptorIndex := 491, attributes := #[] }, { accessFlags := 0, nameIndex := 5, descriptorIndex := 211, attributes := #[] }, { accessFlags := 0, nameIndex := 17, descriptorIndex := 337, attributes := #[] }, { accessFlags := 0, nameIndex := 13, descriptorIndex := 340, attributes := #[] }, { accessFlags := 0, nameIndex := 494, descriptorIndex := 142, attributes := #[] }, { accessFlags := 8, nameIndex := 501, descriptorIndex := 391, attributes := #[] }, { accessFlags := 8, nameIndex := 523, descriptorIndex := 524, attributes := #[] }] 49 2 #[1106, 1108, 575, 1110, 1112] #[{ accessFlags := 18, nameIndex := 13, descriptorIndex := 14, attributes := #[] }, { accessFlags := 18, nameIndex := 17, descriptorIndex := 18, attributes := #[] }, { accessFlags := 2, nameIndex := 21, descriptorIndex := 22, attributes := #[] }, { accessFlags := 2, nameIndex := 25, descriptorIndex := 26, attributes := #[] }, { accessFlags := 26, nameIndex := 1116, descriptorIndex := 1117, attributes := #[] }, { accessFlags := 24, nameIndex := 40, descriptorIndex := 26, attributes := #[] }, { accessFlags := 26, nameIndex := 1101, descriptorIndex := 1102, attributes := #[] }, { accessFlags := 26, nameIndex := 1121, descriptorIndex := 1122, attributes := #[] }, { accessFlags := 25, nameIndex := 599, descriptorIndex := 600, attributes := #[] }, { accessFlags := 24, nameIndex := 1125, descriptorIndex := 18, attributes := #[] }, { accessFlags := 24, nameIndex := 1127, descriptorIndex := 18, attributes := #[] }])
  fields := #[{ name := "value", type := (.array .byte), accessFlags := 18, slot := 0, constantValue := 0 }, { name := "coder", type := .byte, accessFlags := 18, slot := 1, constantValue := 0 }, { name := "hash", type := .int, accessFlags := 2, slot := 2, constantValue := 0 }, { name := "hashIsZero", type := .boolean, accessFlags := 2, slot := 3, constantValue := 0 }, { name := "serialVersionUID", type := .long, accessFlags := 26, slot := 0, constantValue := 0 }, { name := "COMPACT_STRINGS", type := .boolean, accessFlags := 24, slot := 1, constantValue := 0 }, { name := "serialPersistentFields", type := (.array (.object "java/io/ObjectStreamField")), accessFlags := 26, slot := 2, constantValue := 0 }, { name := "REPL", type := .char, accessFlags := 26, slot := 3, constantValue := 0 }, { name := "CASE_INSENSITIVE_ORDER", type := (.object "java/util/Comparator"), accessFlags := 25, slot := 4, constantValue := 0 }, { name := "LATIN1", type := .byte, accessFlags := 24, slot := 5, constantValue := 0 }, { name := "UTF16", type := .byte, accessFlags := 24, slot := 6, constantValue := 0 }]
  methods := #[k7m0, k7m1, k7m2, k7m3, k7m4, k7m5, k7m6, k7m7, k7m8, k7m9, k7m10, k7m11, k7m12, k7m13]
  instanceTypes := #[(.array .byte), .byte, .int, .boolean]
  staticTypes := #[.long, .boolean, (.array (.object "java/io/ObjectStreamField")), .char, (.object "java/util/Comparator"), .byte, .byte]
  resolved := Array.replicate 1451 none
  statics := some 0 }

def pool8 : Array CpInfo := pool [(6, .class_ 8), (1, u "java/lang/Object"), (0, u "<init>"), (0, u "()V"), (1, .class_ 14), (1, u "java/lang/StringUTF16"), (31, u "$assertionsDisabled"), (0, u "Z"), (13, u "HI_BYTE_SHIFT"), (0, u "I"), (2, u "LO_BYTE_SHIFT"), (49, .methodref 12 116), (0, .nameAndType 117 118), (0, u "compress"), (0, u "([CI[BII)I"), (3, u "([CII)[B"), (138, u "coderFromArrayLen"), (0, u "([BI)B"), (106, .class_ 371), (1, u "java/lang/StringUTF16$LinesSpliterator"), (58, u "MAX_LENGTH"), (196, .class_ 628), (0, u "java/lang/StringUTF16$CodePointsSpliterator"), (0, .class_ 630), (0, u "java/lang/StringUTF16$CharsSpliterator")] 4

def k8m0 : Method := { name := "<init>", desc := "()V", sig := { parameters := [], returnType := none }, accessFlags := 0, code := none }
def k8c1 : Code := { maxStack := 2, maxLocals := 2, code := jdk_52_method_15_code, exceptionTable := #[], attributes := #[] }
def k8m1 : Method := { name := "coderFromArrayLen", desc := "([BI)B", sig := { parameters := [(.array .byte), .int], returnType := some .byte }, accessFlags := 8, code := some k8c1 }
def k8c2 : Code := { maxStack := 5, maxLocals := 6, code := jdk_52_method_16_code, exceptionTable := #[], attributes := #[] }
def k8m2 : Method := { name := "compress", desc := "([CII)[B", sig := { parameters := [(.array .char), .int, .int], returnType := some (.array .byte) }, accessFlags := 9, code := some k8c2 }
def k8c3 : Code := { maxStack := 3, maxLocals := 7, code := jdk_52_method_21_code, exceptionTable := #[], attributes := #[] }
def k8m3 : Method := { name := "compress", desc := "([CI[BII)I", sig := { parameters := [(.array .char), .int, (.array .byte), .int, .int], returnType := some .int }, accessFlags := 9, code := some k8c3 }
/-- java/lang/StringUTF16 -/
def k8 : Class := { plain "java/lang/StringUTF16" (some 0) with
  accessFlags := 48
  interfaces := #[]
  cf := some (fileOf pool8 12 #[.nestMembers #[627, 629, 369]] #[{ accessFlags := 0, nameIndex := 9, descriptorIndex := 10, attributes := #[] }, { accessFlags := 8, nameIndex := 261, descriptorIndex := 262, attributes := #[] }, { accessFlags := 9, nameIndex := 117, descriptorIndex := 122, attributes := #[] }, { accessFlags := 9, nameIndex := 117, descriptorIndex := 118, attributes := #[] }] 48 6 #[] #[{ accessFlags := 26, nameIndex := 61, descriptorIndex := 62, attributes := #[] }, { accessFlags := 26, nameIndex := 65, descriptorIndex := 62, attributes := #[] }, { accessFlags := 24, nameIndex := 430, descriptorIndex := 62, attributes := #[] }, { accessFlags := 4120, nameIndex := 46, descriptorIndex := 47, attributes := #[] }])
  fields := #[{ name := "HI_BYTE_SHIFT", type := .int, accessFlags := 26, slot := 0, constantValue := 0 }, { name := "LO_BYTE_SHIFT", type := .int, accessFlags := 26, slot := 1, constantValue := 0 }, { name := "MAX_LENGTH", type := .int, accessFlags := 24, slot := 2, constantValue := 0 }, { name := "$assertionsDisabled", type := .boolean, accessFlags := 4120, slot := 3, constantValue := 0 }]
  methods := #[k8m0, k8m1, k8m2, k8m3]
  instanceTypes := #[]
  staticTypes := #[.int, .int, .int, .boolean]
  resolved := Array.replicate 635 none
  statics := none }

def pool9 : Array CpInfo := pool [(1, .methodref 2 3), (0, .class_ 4), (0, .nameAndType 5 6), (0, u "java/lang/Object"), (0, u "<init>"), (0, u "()V"), (0, .class_ 8), (0, u "gatelayer/PathSegments"), (0, .fieldref 7 10), (0, .nameAndType 11 12), (0, u "bounds"), (0, u "[I"), (0, .fieldref 7 14), (0, .nameAndType 15 16), (0, u "text"), (0, u "Ljava/lang/String;"), (0, .fieldref 7 18), (0, .nameAndType 19 20), (0, u "from"), (0, u "I"), (0, .fieldref 7 22), (0, .nameAndType 23 20), (0, u "to"), (2, u "(Ljava/lang/String;I)V"), (4, .methodref 32 33), (0, .class_ 34), (0, .nameAndType 35 36), (0, u "java/lang/String"), (0, u "length"), (0, u "()I"), (6, u "add"), (0, u "(II)V"), (2, u "endsAt"), (0, u "(I)Lgatelayer/PathSegments;"), (0, .fieldref 7 50), (0, .nameAndType 51 20), (0, u "count"), (6, .methodref 7 59), (0, .nameAndType 47 60), (0, u "(II)Lgatelayer/PathSegments;"), (0, .fieldref 7 62), (0, .nameAndType 63 20), (0, u "dropped"), (0, .methodref 32 65), (0, .nameAndType 66 67), (0, u "charAt"), (0, u "(I)C"), (0, .methodref 32 69), (0, .nameAndType 70 71), (0, u "substring"), (0, u "(II)Ljava/lang/String;"), (0, .class_ 73), (0, u "java/lang/StringBuilder"), (0, .methodref 7 33), (0, .methodref 72 76), (0, .nameAndType 5 77), (0, u "(I)V"), (0, .methodref 72 79), (0, .nameAndType 80 81), (0, u "append"), (0, u "(C)Ljava/lang/StringBuilder;"), (0, .methodref 7 83), (0, .nameAndType 84 85), (0, u "start"), (0, u "(I)I"), (0, .methodref 7 87), (0, .nameAndType 88 85), (0, u "end"), (0, .methodref 72 90), (0, .nameAndType 80 91), (0, u "(Ljava/lang/CharSequence;II)Ljava/lang/StringBuilder;"), (0, .methodref 7 93), (0, .nameAndType 94 95), (0, u "trailingSlash"), (0, u "()Z"), (0, .methodref 72 97), (0, .nameAndType 98 99), (0, u "toString"), (0, u "()Ljava/lang/String;"), (0, u "ROOM"), (7, u "path")] 5

def k9c0 : Code := { maxStack := 2, maxLocals := 3, code := prog_8_method_1_code, exceptionTable := #[], attributes := #[] }
def k9m0 : Method := { name := "<init>", desc := "(Ljava/lang/String;I)V", sig := { parameters := [(.object "java/lang/String"), .int], returnType := none }, accessFlags := 0, code := some k9c0 }
def k9c1 : Code := { maxStack := 4, maxLocals := 3, code := prog_8_method_3_code, exceptionTable := #[], attributes := #[] }
def k9m1 : Method := { name := "add", desc := "(II)V", sig := { parameters := [.int, .int], returnType := none }, accessFlags := 0, code := some k9c1 }
def k9c2 : Code := { maxStack := 3, maxLocals := 2, code := prog_8_method_4_code, exceptionTable := #[], attributes := #[] }
def k9m2 : Method := { name := "endsAt", desc := "(I)Lgatelayer/PathSegments;", sig := { parameters := [.int], returnType := some (.object "gatelayer/PathSegments") }, accessFlags := 0, code := some k9c2 }
def k9c3 : Code := { maxStack := 2, maxLocals := 3, code := prog_8_method_5_code, exceptionTable := #[], attributes := #[] }
def k9m3 : Method := { name := "endsAt", desc := "(II)Lgatelayer/PathSegments;", sig := { parameters := [.int, .int], returnType := some (.object "gatelayer/PathSegments") }, accessFlags := 0, code := some k9c3 }
def k9c4 : Code := { maxStack := 2, maxLocals := 1, code := prog_8_method_8_code, exceptionTable := #[], attributes := #[] }
def k9m4 : Method := { name := "length", desc := "()I", sig := { parameters := [], returnType := some .int }, accessFlags := 0, code := some k9c4 }
def k9c5 : Code := { maxStack := 5, maxLocals := 3, code := prog_8_method_9_code, exceptionTable := #[], attributes := #[] }
def k9m5 : Method := { name := "path", desc := "()Ljava/lang/String;", sig := { parameters := [], returnType := some (.object "java/lang/String") }, accessFlags := 0, code := some k9c5 }
def k9c6 : Code := { maxStack := 3, maxLocals := 2, code := prog_8_method_11_code, exceptionTable := #[], attributes := #[] }
def k9m6 : Method := { name := "start", desc := "(I)I", sig := { parameters := [.int], returnType := some .int }, accessFlags := 0, code := some k9c6 }
def k9c7 : Code := { maxStack := 3, maxLocals := 2, code := prog_8_method_12_code, exceptionTable := #[], attributes := #[] }
def k9m7 : Method := { name := "end", desc := "(I)I", sig := { parameters := [.int], returnType := some .int }, accessFlags := 0, code := some k9c7 }
def k9c8 : Code := { maxStack := 3, maxLocals := 1, code := prog_8_method_15_code, exceptionTable := #[], attributes := #[] }
def k9m8 : Method := { name := "trailingSlash", desc := "()Z", sig := { parameters := [], returnType := some .boolean }, accessFlags := 0, code := some k9c8 }
/-- gatelayer/PathSegments -/
def k9 : Class := { plain "gatelayer/PathSegments" (some 0) with
  accessFlags := 48
  interfaces := #[]
  cf := some (fileOf pool9 7 #[] #[{ accessFlags := 0, nameIndex := 5, descriptorIndex := 26, attributes := #[] }, { accessFlags := 0, nameIndex := 43, descriptorIndex := 44, attributes := #[] }, { accessFlags := 0, nameIndex := 47, descriptorIndex := 48, attributes := #[] }, { accessFlags := 0, nameIndex := 47, descriptorIndex := 60, attributes := #[] }, { accessFlags := 0, nameIndex := 35, descriptorIndex := 36, attributes := #[] }, { accessFlags := 0, nameIndex := 108, descriptorIndex := 99, attributes := #[] }, { accessFlags := 0, nameIndex := 84, descriptorIndex := 85, attributes := #[] }, { accessFlags := 0, nameIndex := 88, descriptorIndex := 85, attributes := #[] }, { accessFlags := 0, nameIndex := 94, descriptorIndex := 95, attributes := #[] }] 48 2 #[] #[{ accessFlags := 26, nameIndex := 100, descriptorIndex := 20, attributes := #[] }, { accessFlags := 18, nameIndex := 15, descriptorIndex := 16, attributes := #[] }, { accessFlags := 18, nameIndex := 19, descriptorIndex := 20, attributes := #[] }, { accessFlags := 2, nameIndex := 23, descriptorIndex := 20, attributes := #[] }, { accessFlags := 2, nameIndex := 63, descriptorIndex := 20, attributes := #[] }, { accessFlags := 2, nameIndex := 11, descriptorIndex := 12, attributes := #[] }, { accessFlags := 2, nameIndex := 51, descriptorIndex := 20, attributes := #[] }])
  fields := #[{ name := "ROOM", type := .int, accessFlags := 26, slot := 0, constantValue := 0 }, { name := "text", type := (.object "java/lang/String"), accessFlags := 18, slot := 0, constantValue := 0 }, { name := "from", type := .int, accessFlags := 18, slot := 1, constantValue := 0 }, { name := "to", type := .int, accessFlags := 2, slot := 2, constantValue := 0 }, { name := "dropped", type := .int, accessFlags := 2, slot := 3, constantValue := 0 }, { name := "bounds", type := (.array .int), accessFlags := 2, slot := 4, constantValue := 0 }, { name := "count", type := .int, accessFlags := 2, slot := 5, constantValue := 0 }]
  methods := #[k9m0, k9m1, k9m2, k9m3, k9m4, k9m5, k9m6, k9m7, k9m8]
  instanceTypes := #[(.object "java/lang/String"), .int, .int, .int, (.array .int), .int]
  staticTypes := #[.int]
  resolved := Array.replicate 114 none
  statics := none }

def pool10 : Array CpInfo := pool [(2, .class_ 4), (1, u "java/lang/Object"), (0, u "<init>"), (0, u "()V"), (17, .class_ 26), (1, u "jdk/internal/util/Preconditions"), (6, u "checkIndex"), (13, u "checkFromToIndex"), (7, .class_ 56), (0, u "jdk/internal/util/Preconditions$4"), (57, .class_ 115), (0, u "jdk/internal/util/Preconditions$1"), (7, u "SIOOBE_FORMATTER"), (0, u "Ljava/util/function/BiFunction;"), (0, .class_ 126), (0, u "jdk/internal/util/Preconditions$2"), (3, u "AIOOBE_FORMATTER"), (0, .class_ 132), (0, u "jdk/internal/util/Preconditions$3"), (3, u "IOOBE_FORMATTER"), (41, u "(IILjava/util/function/BiFunction;)I"), (4, u "(IIILjava/util/function/BiFunction;)I")] 10

def k10m0 : Method := { name := "<init>", desc := "()V", sig := { parameters := [], returnType := none }, accessFlags := 1, code := none }
def k10c1 : Code := { maxStack := 3, maxLocals := 3, code := jdk_41_method_11_code, exceptionTable := #[], attributes := #[] }
def k10m1 : Method := { name := "checkIndex", desc := "(IILjava/util/function/BiFunction;)I", sig := { parameters := [.int, .int, (.object "java/util/function/BiFunction")], returnType := some .int }, accessFlags := 9, code := some k10c1 }
def k10c2 : Code := { maxStack := 4, maxLocals := 4, code := jdk_41_method_12_code, exceptionTable := #[], attributes := #[] }
def k10m2 : Method := { name := "checkFromToIndex", desc := "(IIILjava/util/function/BiFunction;)I", sig := { parameters := [.int, .int, .int, (.object "java/util/function/BiFunction")], returnType := some .int }, accessFlags := 9, code := some k10c2 }
/-- jdk/internal/util/Preconditions -/
def k10 : Class := { plain "jdk/internal/util/Preconditions" (some 0) with
  accessFlags := 33
  interfaces := #[]
  cf := some (fileOf pool10 24 #[.nestMembers #[55, 131, 125, 114]] #[{ accessFlags := 1, nameIndex := 5, descriptorIndex := 6, attributes := #[] }, { accessFlags := 9, nameIndex := 33, descriptorIndex := 178, attributes := #[] }, { accessFlags := 9, nameIndex := 47, descriptorIndex := 183, attributes := #[] }] 33 2 #[] #[{ accessFlags := 25, nameIndex := 123, descriptorIndex := 124, attributes := #[] }, { accessFlags := 25, nameIndex := 130, descriptorIndex := 124, attributes := #[] }, { accessFlags := 25, nameIndex := 136, descriptorIndex := 124, attributes := #[] }])
  fields := #[{ name := "SIOOBE_FORMATTER", type := (.object "java/util/function/BiFunction"), accessFlags := 25, slot := 0, constantValue := 0 }, { name := "AIOOBE_FORMATTER", type := (.object "java/util/function/BiFunction"), accessFlags := 25, slot := 1, constantValue := 0 }, { name := "IOOBE_FORMATTER", type := (.object "java/util/function/BiFunction"), accessFlags := 25, slot := 2, constantValue := 0 }]
  methods := #[k10m0, k10m1, k10m2]
  instanceTypes := #[]
  staticTypes := #[(.object "java/util/function/BiFunction"), (.object "java/util/function/BiFunction"), (.object "java/util/function/BiFunction")]
  resolved := Array.replicate 194 none
  statics := some 1 }

def pool11 : Array CpInfo := pool [(1, .class_ 2), (0, u "java/lang/String"), (1, .class_ 6), (1, u "java/lang/Object"), (0, u "<init>"), (0, u "()V"), (0, .methodref 1 10), (0, .nameAndType 11 12), (0, u "checkIndex"), (0, u "(II)V"), (1, .class_ 16), (1, u "java/lang/StringLatin1"), (36, u "([BI)C"), (36, u "canEncode"), (14, u "(C)Z"), (6, .methodref 1 113), (0, .nameAndType 7 114), (0, u "([BB)V"), (6, u "$assertionsDisabled"), (0, u "Z"), (8, .class_ 133), (1, u "java/util/Arrays"), (17, .string 152), (0, u ""), (43, u "newString"), (0, u "([BII)Ljava/lang/String;"), (23, .class_ 223), (1, u "java/lang/StringLatin1$LinesSpliterator"), (8, .methodref 131 233), (0, .nameAndType 234 235), (0, u "copyOfRange"), (0, u "([BII)[B"), (16, u "charAt"), (137, .class_ 391), (0, u "java/lang/StringLatin1$CharsSpliterator")] 3

def k11m0 : Method := { name := "<init>", desc := "()V", sig := { parameters := [], returnType := none }, accessFlags := 0, code := none }
def k11c1 : Code := { maxStack := 2, maxLocals := 2, code := jdk_43_method_2_code, exceptionTable := #[], attributes := #[] }
def k11m1 : Method := { name := "charAt", desc := "([BI)C", sig := { parameters := [(.array .byte), .int], returnType := some .char }, accessFlags := 9, code := some k11c1 }
def k11c2 : Code := { maxStack := 2, maxLocals := 1, code := jdk_43_method_3_code, exceptionTable := #[], attributes := #[] }
def k11m2 : Method := { name := "canEncode", desc := "(C)Z", sig := { parameters := [.char], returnType := some .boolean }, accessFlags := 9, code := some k11c2 }
def k11c3 : Code := { maxStack := 6, maxLocals := 3, code := jdk_43_method_47_code, exceptionTable := #[], attributes := #[] }
def k11m3 : Method := { name := "newString", desc := "([BII)Ljava/lang/String;", sig := { parameters := [(.array .byte), .int, .int], returnType := some (.object "java/lang/String") }, accessFlags := 9, code := some k11c3 }
/-- java/lang/StringLatin1 -/
def k11 : Class := { plain "java/lang/StringLatin1" (some 0) with
  accessFlags := 48
  interfaces := #[]
  cf := some (fileOf pool11 14 #[.nestMembers #[390, 221]] #[{ accessFlags := 0, nameIndex := 7, descriptorIndex := 8, attributes := #[] }, { accessFlags := 9, nameIndex := 252, descriptorIndex := 53, attributes := #[] }, { accessFlags := 9, nameIndex := 90, descriptorIndex := 105, attributes := #[] }, { accessFlags := 9, nameIndex := 196, descriptorIndex := 197, attributes := #[] }] 48 4 #[] #[{ accessFlags := 4120, nameIndex := 121, descriptorIndex := 122, attributes := #[] }])
  fields := #[{ name := "$assertionsDisabled", type := .boolean, accessFlags := 4120, slot := 0, constantValue := 0 }]
  methods := #[k11m0, k11m1, k11m2, k11m3]
  instanceTypes := #[]
  staticTypes := #[.boolean]
  resolved := Array.replicate 395 none
  statics := none }

def pool12 : Array CpInfo := pool [(2, .class_ 4), (1, u "java/lang/Object"), (0, u "<init>"), (0, u "()V"), (7, .class_ 16), (1, u "java/util/Arrays"), (57, .class_ 76), (1, u "java/util/Arrays$NaturalOrder"), (32, u "()Ljava/lang/Object;"), (3, .class_ 115), (1, u "java/util/Arrays$LegacyMergeSort"), (1, u "Z"), (10, .nameAndType 129 109), (0, u "clone"), (9, u "copyOfRange"), (10, .methodref 151 152), (0, .class_ 153), (0, .nameAndType 154 155), (0, u "java/lang/System"), (0, u "arraycopy"), (0, u "(Ljava/lang/Object;ILjava/lang/Object;II)V"), (148, .methodref 305 306), (0, .class_ 307), (0, .nameAndType 308 309), (0, u "java/lang/Math"), (0, u "min"), (0, u "(II)I"), (0, .methodref 311 128), (0, .class_ 312), (0, u "[B"), (26, .methodref 14 340), (0, .nameAndType 341 342), (0, u "copyOfRangeByte"), (0, u "([BII)[B"), (0, .methodref 14 344), (0, .nameAndType 345 346), (0, u "checkLength"), (0, u "(II)V"), (28, .class_ 376), (0, u "java/util/Arrays$ArrayList"), (68, u "$assertionsDisabled"), (269, u "MIN_ARRAY_SORT_GRAN"), (0, u "I"), (2, u "INSERTIONSORT_THRESHOLD"), (255, .class_ 976), (0, u "java/util/Arrays$ArrayItr")] 52

def k12m0 : Method := { name := "<init>", desc := "()V", sig := { parameters := [], returnType := none }, accessFlags := 2, code := none }
def k12c1 : Code := { maxStack := 4, maxLocals := 2, code := jdk_65_method_131_code, exceptionTable := #[], attributes := #[] }
def k12m1 : Method := { name := "checkLength", desc := "(II)V", sig := { parameters := [.int, .int], returnType := none }, accessFlags := 10, code := some k12c1 }
def k12c2 : Code := { maxStack := 3, maxLocals := 3, code := jdk_65_method_132_code, exceptionTable := #[], attributes := #[] }
def k12m2 : Method := { name := "copyOfRange", desc := "([BII)[B", sig := { parameters := [(.array .byte), .int, .int], returnType := some (.array .byte) }, accessFlags := 9, code := some k12c2 }
def k12c3 : Code := { maxStack := 6, maxLocals := 5, code := jdk_65_method_133_code, exceptionTable := #[], attributes := #[] }
def k12m3 : Method := { name := "copyOfRangeByte", desc := "([BII)[B", sig := { parameters := [(.array .byte), .int, .int], returnType := some (.array .byte) }, accessFlags := 10, code := some k12c3 }
/-- java/util/Arrays -/
def k12 : Class := { plain "java/util/Arrays" (some 0) with
  accessFlags := 49
  interfaces := #[]
  cf := some (fileOf pool12 14 #[.nestMembers #[975, 375, 113, 74]] #[{ accessFlags := 2, nameIndex := 5, descriptorIndex := 6, attributes := #[] }, { accessFlags := 10, nameIndex := 345, descriptorIndex := 346, attributes := #[] }, { accessFlags := 9, nameIndex := 139, descriptorIndex := 342, attributes := #[] }, { accessFlags := 10, nameIndex := 341, descriptorIndex := 342, attributes := #[] }] 49 2 #[] #[{ accessFlags := 26, nameIndex := 715, descriptorIndex := 716, attributes := #[] }, { accessFlags := 26, nameIndex := 719, descriptorIndex := 716, attributes := #[] }, { accessFlags := 4120, nameIndex := 445, descriptorIndex := 117, attributes := #[] }])
  fields := #[{ name := "MIN_ARRAY_SORT_GRAN", type := .int, accessFlags := 26, slot := 0, constantValue := 0 }, { name := "INSERTIONSORT_THRESHOLD", type := .int, accessFlags := 26, slot := 1, constantValue := 0 }, { name := "$assertionsDisabled", type := .boolean, accessFlags := 4120, slot := 2, constantValue := 0 }]
  methods := #[k12m0, k12m1, k12m2, k12m3]
  instanceTypes := #[]
  staticTypes := #[.int, .int, .boolean]
  resolved := Array.replicate 1029 none
  statics := none }

def pool13 : Array CpInfo := pool [(1, .class_ 2), (0, u "java/lang/Math"), (1, .class_ 6), (1, u "java/lang/Object"), (0, u "<init>"), (0, u "()V"), (89, .class_ 100), (1, u "java/lang/Math$RandomNumberGeneratorHolder"), (71, u "negativeZeroFloatBits"), (0, u "J"), (2, u "negativeZeroDoubleBits"), (24, u "min"), (43, u "$assertionsDisabled"), (0, u "Z"), (88, u "(II)I"), (2, u "twoToTheDoubleScaleDown"), (0, u "D"), (4, u "twoToTheDoubleScaleUp"), (9, u "E"), (3, u "PI"), (2, u "TAU"), (2, u "DEGREES_TO_RADIANS"), (0, u "RADIANS_TO_DEGREES")] 94

def k13m0 : Method := { name := "<init>", desc := "()V", sig := { parameters := [], returnType := none }, accessFlags := 2, code := none }
def k13c1 : Code := { maxStack := 2, maxLocals := 2, code := jdk_29_method_69_code, exceptionTable := #[], attributes := #[] }
def k13m1 : Method := { name := "min", desc := "(II)I", sig := { parameters := [.int, .int], returnType := some .int }, accessFlags := 9, code := some k13c1 }
/-- java/lang/Math -/
def k13 : Class := { plain "java/lang/Math" (some 0) with
  accessFlags := 49
  interfaces := #[]
  cf := some (fileOf pool13 1 #[.nestMembers #[98]] #[{ accessFlags := 2, nameIndex := 7, descriptorIndex := 8, attributes := #[] }, { accessFlags := 9, nameIndex := 201, descriptorIndex := 335, attributes := #[] }] 49 4 #[] #[{ accessFlags := 25, nameIndex := 354, descriptorIndex := 339, attributes := #[] }, { accessFlags := 25, nameIndex := 358, descriptorIndex := 339, attributes := #[] }, { accessFlags := 25, nameIndex := 361, descriptorIndex := 339, attributes := #[] }, { accessFlags := 26, nameIndex := 364, descriptorIndex := 339, attributes := #[] }, { accessFlags := 26, nameIndex := 365, descriptorIndex := 339, attributes := #[] }, { accessFlags := 26, nameIndex := 172, descriptorIndex := 173, attributes := #[] }, { accessFlags := 26, nameIndex := 176, descriptorIndex := 173, attributes := #[] }, { accessFlags := 8, nameIndex := 344, descriptorIndex := 339, attributes := #[] }, { accessFlags := 8, nameIndex := 338, descriptorIndex := 339, attributes := #[] }, { accessFlags := 4120, nameIndex := 245, descriptorIndex := 246, attributes := #[] }])
  fields := #[{ name := "E", type := .double, accessFlags := 25, slot := 0, constantValue := 0 }, { name := "PI", type := .double, accessFlags := 25, slot := 1, constantValue := 0 }, { name := "TAU", type := .double, accessFlags := 25, slot := 2, constantValue := 0 }, { name := "DEGREES_TO_RADIANS", type := .double, accessFlags := 26, slot := 3, constantValue := 0 }, { name := "RADIANS_TO_DEGREES", type := .double, accessFlags := 26, slot := 4, constantValue := 0 }, { name := "negativeZeroFloatBits", type := .long, accessFlags := 26, slot := 5, constantValue := 0 }, { name := "negativeZeroDoubleBits", type := .long, accessFlags := 26, slot := 6, constantValue := 0 }, { name := "twoToTheDoubleScaleUp", type := .double, accessFlags := 8, slot := 7, constantValue := 0 }, { name := "twoToTheDoubleScaleDown", type := .double, accessFlags := 8, slot := 8, constantValue := 0 }, { name := "$assertionsDisabled", type := .boolean, accessFlags := 4120, slot := 9, constantValue := 0 }]
  methods := #[k13m0, k13m1]
  instanceTypes := #[]
  staticTypes := #[.double, .double, .double, .double, .double, .long, .long, .double, .double, .boolean]
  resolved := Array.replicate 460 none
  statics := none }

def pool14 : Array CpInfo := pool [(2, .class_ 4), (1, u "java/lang/Object"), (0, u "<init>"), (0, u "()V"), (1, .class_ 10), (1, u "java/lang/System"), (0, u "allowSecurityManager"), (0, u "I"), (16, u "cons"), (0, u "Ljava/io/Console;"), (77, .class_ 110), (1, u "java/lang/System$CallersHolder"), (43, u "initialErrStream"), (0, u "Ljava/io/PrintStream;"), (19, u "security"), (0, u "Ljava/lang/SecurityManager;"), (31, .class_ 209), (0, u "java/lang/System$1"), (7, u "props"), (0, u "Ljava/util/Properties;"), (2, u "lineSeparator"), (0, u "Ljava/lang/String;"), (96, .class_ 321), (1, u "java/lang/System$LoggerFinder"), (5, .class_ 328), (0, u "java/lang/System$Logger"), (67, u "err"), (2, u "out"), (91, u "notSupportedJnuEncoding"), (15, u "in"), (17, u "initialIn"), (0, u "Ljava/io/InputStream;"), (35, u "bootLayer"), (0, u "Ljava/lang/ModuleLayer;"), (99, .class_ 664), (0, u "java/lang/System$2"), (9, u "NEVER"), (2, u "MAYBE"), (49, u "arraycopy"), (0, u "(Ljava/lang/Object;ILjava/lang/Object;II)V"), (72, .class_ 802), (0, u "java/lang/System$Logger$Level")] 31

def k14m0 : Method := { name := "<init>", desc := "()V", sig := { parameters := [], returnType := none }, accessFlags := 2, code := none }
def k14m1 : Method := { name := "arraycopy", desc := "(Ljava/lang/Object;ILjava/lang/Object;II)V", sig := { parameters := [(.object "java/lang/Object"), .int, (.object "java/lang/Object"), .int, .int], returnType := none }, accessFlags := 265, code := none }
/-- java/lang/System -/
def k14 : Class := { plain "java/lang/System" (some 0) with
  accessFlags := 49
  interfaces := #[]
  cf := some (fileOf pool14 8 #[.nestMembers #[319, 327, 801, 108, 663, 208]] #[{ accessFlags := 2, nameIndex := 5, descriptorIndex := 6, attributes := #[] }, { accessFlags := 265, nameIndex := 727, descriptorIndex := 728, attributes := #[] }] 49 2 #[] #[{ accessFlags := 25, nameIndex := 507, descriptorIndex := 526, attributes := #[] }, { accessFlags := 25, nameIndex := 399, descriptorIndex := 155, attributes := #[] }, { accessFlags := 25, nameIndex := 396, descriptorIndex := 155, attributes := #[] }, { accessFlags := 10, nameIndex := 525, descriptorIndex := 526, attributes := #[] }, { accessFlags := 26, nameIndex := 674, descriptorIndex := 12, attributes := #[] }, { accessFlags := 26, nameIndex := 677, descriptorIndex := 12, attributes := #[] }, { accessFlags := 10, nameIndex := 11, descriptorIndex := 12, attributes := #[] }, { accessFlags := 74, nameIndex := 175, descriptorIndex := 176, attributes := #[] }, { accessFlags := 10, nameIndex := 491, descriptorIndex := 222, attributes := #[] }, { accessFlags := 74, nameIndex := 29, descriptorIndex := 30, attributes := #[] }, { accessFlags := 74, nameIndex := 154, descriptorIndex := 155, attributes := #[] }, { accessFlags := 10, nameIndex := 217, descriptorIndex := 218, attributes := #[] }, { accessFlags := 10, nameIndex := 221, descriptorIndex := 222, attributes := #[] }, { accessFlags := 8, nameIndex := 562, descriptorIndex := 563, attributes := #[] }])
  fields := #[{ name := "in", type := (.object "java/io/InputStream"), accessFlags := 25, slot := 0, constantValue := 0 }, { name := "out", type := (.object "java/io/PrintStream"), accessFlags := 25, slot := 1, constantValue := 0 }, { name := "err", type := (.object "java/io/PrintStream"), accessFlags := 25, slot := 2, constantValue := 0 }, { name := "initialIn", type := (.object "java/io/InputStream"), accessFlags := 10, slot := 3, constantValue := 0 }, { name := "NEVER", type := .int, accessFlags := 26, slot := 4, constantValue := 0 }, { name := "MAYBE", type := .int, accessFlags := 26, slot := 5, constantValue := 0 }, { name := "allowSecurityManager", type := .int, accessFlags := 10, slot := 6, constantValue := 0 }, { name := "security", type := (.object "java/lang/SecurityManager"), accessFlags := 74, slot := 7, constantValue := 0 }, { name := "notSupportedJnuEncoding", type := (.object "java/lang/String"), accessFlags := 10, slot := 8, constantValue := 0 }, { name := "cons", type := (.object "java/io/Console"), accessFlags := 74, slot := 9, constantValue := 0 }, { name := "initialErrStream", type := (.object "java/io/PrintStream"), accessFlags := 74, slot := 10, constantValue := 0 }, { name := "props", type := (.object "java/util/Properties"), accessFlags := 10, slot := 11, constantValue := 0 }, { name := "lineSeparator", type := (.object "java/lang/String"), accessFlags := 10, slot := 12, constantValue := 0 }, { name := "bootLayer", type := (.object "java/lang/ModuleLayer"), accessFlags := 8, slot := 13, constantValue := 0 }]
  methods := #[k14m0, k14m1]
  instanceTypes := #[]
  staticTypes := #[(.object "java/io/InputStream"), (.object "java/io/PrintStream"), (.object "java/io/PrintStream"), (.object "java/io/InputStream"), .int, .int, .int, (.object "java/lang/SecurityManager"), (.object "java/lang/String"), (.object "java/io/Console"), (.object "java/io/PrintStream"), (.object "java/util/Properties"), (.object "java/lang/String"), (.object "java/lang/ModuleLayer")]
  resolved := Array.replicate 834 none
  statics := none }

def pool15 : Array CpInfo := pool [(1, .class_ 2), (0, u "java/lang/Appendable"), (0, .class_ 4), (0, u "java/lang/Object")] 9

/-- java/lang/Appendable -/
def k15 : Class := { plain "java/lang/Appendable" (some 0) with
  accessFlags := 1537
  interfaces := #[]
  cf := some (fileOf pool15 1 #[] #[] 1537 3 #[] #[])
  fields := #[]
  methods := #[]
  instanceTypes := #[]
  staticTypes := #[]
  resolved := Array.replicate 14 none
  statics := none }

def pool16 : Array CpInfo := pool [(1, .class_ 2), (0, u "java/lang/String"), (0, .methodref 4 5), (0, .class_ 6), (0, .nameAndType 7 8), (0, u "java/lang/Object"), (0, u "<init>"), (0, u "()V"), (1, .class_ 12), (1, u "java/lang/AbstractStringBuilder"), (0, u "EMPTYVALUE"), (0, u "[B"), (0, .fieldref 10 16), (0, .nameAndType 17 14), (0, u "value"), (0, .fieldref 1 19), (0, .nameAndType 20 21), (0, u "COMPACT_STRINGS"), (0, u "Z"), (0, .fieldref 10 23), (0, .nameAndType 24 25), (0, u "coder"), (0, u "B"), (7, .nameAndType 34 35), (0, u "length"), (0, u "()I"), (9, u "append"), (1, .interfaceMethodref 48 33), (0, .class_ 49), (0, u "java/lang/CharSequence"), (25, u "maybeLatin1"), (3, .fieldref 10 80), (0, .nameAndType 81 82), (0, u "count"), (0, u "I"), (0, .methodref 10 84), (0, .nameAndType 85 86), (0, u "isLatin1"), (0, u "()Z"), (1, .class_ 90), (1, u "java/lang/StringLatin1"), (9, .methodref 10 101), (0, .nameAndType 102 103), (0, u "ensureCapacityInternal"), (0, u "(I)V"), (57, .methodref 162 163), (0, .class_ 164), (0, .nameAndType 165 166), (0, u "jdk/internal/util/Preconditions"), (0, u "checkFromToIndex"), (0, u "(IIILjava/util/function/BiFunction;)I"), (15, u "Ljava/util/function/BiFunction;"), (0, .fieldref 162 184), (0, .nameAndType 185 182), (0, u "IOOBE_FORMATTER"), (5, .methodref 88 192), (0, .nameAndType 193 194), (0, u "canEncode"), (0, u "(C)Z"), (30, u "(Ljava/lang/CharSequence;II)Ljava/lang/AbstractStringBuilder;"), (6, .methodref 10 233), (0, .nameAndType 234 235), (0, u "appendChars"), (0, u "(Ljava/lang/String;II)V"), (56, u "(C)Ljava/lang/AbstractStringBuilder;"), (16, .methodref 310 311), (0, .class_ 312), (0, .nameAndType 313 314), (0, u "java/lang/System"), (0, u "arraycopy"), (0, u "(Ljava/lang/Object;ILjava/lang/Object;II)V"), (85, .methodref 1 84), (0, .methodref 1 402), (0, .nameAndType 17 403), (0, u "()[B"), (40, .class_ 445), (0, u "java/lang/Appendable"), (106, u "getValue")] 56

def k16m0 : Method := { name := "<init>", desc := "()V", sig := { parameters := [], returnType := none }, accessFlags := 0, code := none }
def k16c1 : Code := { maxStack := 2, maxLocals := 2, code := jdk_68_method_2_code, exceptionTable := #[], attributes := #[] }
def k16m1 : Method := { name := "<init>", desc := "(I)V", sig := { parameters := [.int], returnType := none }, accessFlags := 0, code := some k16c1 }
def k16c2 : Code := { maxStack := 1, maxLocals := 1, code := jdk_68_method_6_code, exceptionTable := #[], attributes := #[] }
def k16m2 : Method := { name := "length", desc := "()I", sig := { parameters := [], returnType := some .int }, accessFlags := 1, code := some k16c2 }
def k16c3 : Code := { maxStack := 4, maxLocals := 3, code := jdk_68_method_9_code, exceptionTable := #[], attributes := #[] }
def k16m3 : Method := { name := "ensureCapacityInternal", desc := "(I)V", sig := { parameters := [.int], returnType := none }, accessFlags := 2, code := some k16c3 }
def k16c4 : Code := { maxStack := 4, maxLocals := 5, code := jdk_68_method_27_code, exceptionTable := #[], attributes := #[] }
def k16m4 : Method := { name := "append", desc := "(Ljava/lang/CharSequence;II)Ljava/lang/AbstractStringBuilder;", sig := { parameters := [(.object "java/lang/CharSequence"), .int, .int], returnType := some (.object "java/lang/AbstractStringBuilder") }, accessFlags := 1, code := some k16c4 }
def k16c5 : Code := { maxStack := 5, maxLocals := 2, code := jdk_68_method_31_code, exceptionTable := #[], attributes := #[] }
def k16m5 : Method := { name := "append", desc := "(C)Ljava/lang/AbstractStringBuilder;", sig := { parameters := [.char], returnType := some (.object "java/lang/AbstractStringBuilder") }, accessFlags := 1, code := some k16c5 }
def k16c6 : Code := { maxStack := 1, maxLocals := 1, code := jdk_68_method_64_code, exceptionTable := #[], attributes := #[] }
def k16m6 : Method := { name := "getValue", desc := "()[B", sig := { parameters := [], returnType := some (.array .byte) }, accessFlags := 16, code := some k16c6 }
def k16c7 : Code := { maxStack := 1, maxLocals := 1, code := jdk_68_method_68_code, exceptionTable := #[], attributes := #[] }
def k16m7 : Method := { name := "isLatin1", desc := "()Z", sig := { parameters := [], returnType := some .boolean }, accessFlags := 16, code := some k16c7 }
def k16c8 : Code := { maxStack := 6, maxLocals := 8, code := jdk_68_method_75_code, exceptionTable := #[], attributes := #[] }
def k16m8 : Method := { name := "appendChars", desc := "(Ljava/lang/String;II)V", sig := { parameters := [(.object "java/lang/String"), .int, .int], returnType := none }, accessFlags := 18, code := some k16c8 }
/-- java/lang/AbstractStringBuilder -/
def k16 : Class := { plain "java/lang/AbstractStringBuilder" (some 0) with
  accessFlags := 1056
  interfaces := #[15, 4]
  cf := some (fileOf pool16 10 #[] #[{ accessFlags := 0, nameIndex := 7, descriptorIndex := 8, attributes := #[] }, { accessFlags := 0, nameIndex := 7, descriptorIndex := 103, attributes := #[] }, { accessFlags := 1, nameIndex := 34, descriptorIndex := 35, attributes := #[] }, { accessFlags := 2, nameIndex := 102, descriptorIndex := 103, attributes := #[] }, { accessFlags := 1, nameIndex := 45, descriptorIndex := 225, attributes := #[] }, { accessFlags := 1, nameIndex := 45, descriptorIndex := 292, attributes := #[] }, { accessFlags := 16, nameIndex := 552, descriptorIndex := 403, attributes := #[] }, { accessFlags := 16, nameIndex := 85, descriptorIndex := 86, attributes := #[] }, { accessFlags := 18, nameIndex := 234, descriptorIndex := 235, attributes := #[] }] 1056 4 #[444, 48] #[{ accessFlags := 0, nameIndex := 17, descriptorIndex := 14, attributes := #[] }, { accessFlags := 0, nameIndex := 24, descriptorIndex := 25, attributes := #[] }, { accessFlags := 0, nameIndex := 75, descriptorIndex := 21, attributes := #[] }, { accessFlags := 0, nameIndex := 81, descriptorIndex := 82, attributes := #[] }, { accessFlags := 26, nameIndex := 13, descriptorIndex := 14, attributes := #[] }])
  fields := #[{ name := "value", type := (.array .byte), accessFlags := 0, slot := 0, constantValue := 0 }, { name := "coder", type := .byte, accessFlags := 0, slot := 1, constantValue := 0 }, { name := "maybeLatin1", type := .boolean, accessFlags := 0, slot := 2, constantValue := 0 }, { name := "count", type := .int, accessFlags := 0, slot := 3, constantValue := 0 }, { name := "EMPTYVALUE", type := (.array .byte), accessFlags := 26, slot := 0, constantValue := 0 }]
  methods := #[k16m0, k16m1, k16m2, k16m3, k16m4, k16m5, k16m6, k16m7, k16m8]
  instanceTypes := #[(.array .byte), .byte, .boolean, .int]
  staticTypes := #[(.array .byte)]
  resolved := Array.replicate 609 none
  statics := none }

def pool17 : Array CpInfo := pool [(1, .methodref 2 3), (0, .class_ 4), (0, .nameAndType 5 6), (0, u "java/lang/AbstractStringBuilder"), (0, u "<init>"), (0, u "(I)V"), (11, .class_ 20), (1, u "java/lang/String"), (3, .class_ 26), (1, u "java/lang/StringBuilder"), (0, u "append"), (10, .methodref 2 39), (0, .nameAndType 27 40), (0, u "(Ljava/lang/CharSequence;II)Ljava/lang/AbstractStringBuilder;"), (9, .methodref 2 51), (0, .nameAndType 27 52), (0, u "(C)Ljava/lang/AbstractStringBuilder;"), (84, .methodref 18 138), (0, .nameAndType 5 139), (0, u "(Ljava/lang/StringBuilder;)V"), (5, u "()V"), (10, u "()I"), (129, u "(C)Ljava/lang/StringBuilder;"), (11, u "(Ljava/lang/CharSequence;II)Ljava/lang/StringBuilder;"), (44, .methodref 2 344), (0, .nameAndType 345 156), (0, u "length"), (3, .class_ 350), (0, u "java/lang/Appendable"), (0, .class_ 352), (0, u "java/io/Serializable"), (0, .class_ 354), (0, u "java/lang/Comparable"), (0, .class_ 356), (0, u "java/lang/CharSequence"), (0, u "serialVersionUID"), (0, u "J"), (40, u "toString"), (0, u "()Ljava/lang/String;")] 21

def k17m0 : Method := { name := "<init>", desc := "()V", sig := { parameters := [], returnType := none }, accessFlags := 1, code := none }
def k17c1 : Code := { maxStack := 2, maxLocals := 2, code := jdk_67_method_2_code, exceptionTable := #[], attributes := #[] }
def k17m1 : Method := { name := "<init>", desc := "(I)V", sig := { parameters := [.int], returnType := none }, accessFlags := 1, code := some k17c1 }
def k17c2 : Code := { maxStack := 4, maxLocals := 4, code := jdk_67_method_10_code, exceptionTable := #[], attributes := #[] }
def k17m2 : Method := { name := "append", desc := "(Ljava/lang/CharSequence;II)Ljava/lang/StringBuilder;", sig := { parameters := [(.object "java/lang/CharSequence"), .int, .int], returnType := some (.object "java/lang/StringBuilder") }, accessFlags := 1, code := some k17c2 }
def k17c3 : Code := { maxStack := 2, maxLocals := 2, code := jdk_67_method_14_code, exceptionTable := #[], attributes := #[] }
def k17m3 : Method := { name := "append", desc := "(C)Ljava/lang/StringBuilder;", sig := { parameters := [.char], returnType := some (.object "java/lang/StringBuilder") }, accessFlags := 1, code := some k17c3 }
def k17c4 : Code := { maxStack := 3, maxLocals := 1, code := jdk_67_method_42_code, exceptionTable := #[], attributes := #[] }
def k17m4 : Method := { name := "toString", desc := "()Ljava/lang/String;", sig := { parameters := [], returnType := some (.object "java/lang/String") }, accessFlags := 1, code := some k17c4 }
def k17c5 : Code := { maxStack := 1, maxLocals := 1, code := jdk_67_method_93_code, exceptionTable := #[], attributes := #[] }
def k17m5 : Method := { name := "length", desc := "()I", sig := { parameters := [], returnType := some .int }, accessFlags := 4161, code := some k17c5 }
/-- java/lang/StringBuilder -/
def k17 : Class := { plain "java/lang/StringBuilder" (some 16) with
  accessFlags := 49
  interfaces := #[15, 2, 3, 4]
  cf := some (fileOf pool17 24 #[] #[{ accessFlags := 1, nameIndex := 5, descriptorIndex := 145, attributes := #[] }, { accessFlags := 1, nameIndex := 5, descriptorIndex := 6, attributes := #[] }, { accessFlags := 1, nameIndex := 27, descriptorIndex := 298, attributes := #[] }, { accessFlags := 1, nameIndex := 27, descriptorIndex := 286, attributes := #[] }, { accessFlags := 1, nameIndex := 399, descriptorIndex := 400, attributes := #[] }, { accessFlags := 4161, nameIndex := 345, descriptorIndex := 156, attributes := #[] }] 49 2 #[349, 351, 353, 355] #[{ accessFlags := 24, nameIndex := 357, descriptorIndex := 358, attributes := #[] }])
  fields := #[{ name := "serialVersionUID", type := .long, accessFlags := 24, slot := 0, constantValue := 0 }]
  methods := #[k17m0, k17m1, k17m2, k17m3, k17m4, k17m5]
  instanceTypes := #[(.array .byte), .byte, .boolean, .int]
  staticTypes := #[.long]
  resolved := Array.replicate 422 none
  statics := none }

def pool18 : Array CpInfo := pool [(1, .class_ 2), (0, u "java/lang/Cloneable"), (0, .class_ 4), (0, u "java/lang/Object")] 2

/-- java/lang/Cloneable -/
def k18 : Class := { plain "java/lang/Cloneable" (some 0) with
  accessFlags := 1537
  interfaces := #[]
  cf := some (fileOf pool18 1 #[] #[] 1537 3 #[] #[])
  fields := #[]
  methods := #[]
  instanceTypes := #[]
  staticTypes := #[]
  resolved := Array.replicate 7 none
  statics := none }

def pool19 : Array CpInfo := pool [(9, u "<init>"), (6, .class_ 18), (1, u "java/lang/Object"), (0, u "()V"), (1, .class_ 23), (1, u "jdk/internal/util/ArraysSupport"), (0, u "LOG2_ARRAY_LONG_INDEX_SCALE"), (0, u "I"), (2, u "U"), (0, u "Ljdk/internal/misc/Unsafe;"), (8, u "BIG_ENDIAN"), (0, u "Z"), (8, u "LOG2_BYTE_BIT_SIZE"), (4, u "LOG2_ARRAY_INT_INDEX_SCALE"), (54, u "JLA"), (0, u "Ljdk/internal/access/JavaLangAccess;"), (11, u "LOG2_ARRAY_BOOLEAN_INDEX_SCALE"), (9, u "LOG2_ARRAY_BYTE_INDEX_SCALE"), (5, u "LOG2_ARRAY_CHAR_INDEX_SCALE"), (5, u "LOG2_ARRAY_SHORT_INDEX_SCALE"), (18, u "LOG2_ARRAY_FLOAT_INDEX_SCALE"), (24, u "LOG2_ARRAY_DOUBLE_INDEX_SCALE"), (89, u "T_BOOLEAN"), (2, u "T_CHAR"), (1, u "T_FLOAT"), (1, u "T_DOUBLE"), (1, u "T_BYTE"), (1, u "T_SHORT"), (1, u "T_INT"), (1, u "T_LONG"), (1, u "SOFT_MAX_ARRAY_LENGTH")] 83

def k19m0 : Method := { name := "<init>", desc := "()V", sig := { parameters := [], returnType := none }, accessFlags := 2, code := none }
/-- jdk/internal/util/ArraysSupport -/
def k19 : Class := { plain "jdk/internal/util/ArraysSupport" (some 0) with
  accessFlags := 33
  interfaces := #[]
  cf := some (fileOf pool19 21 #[] #[{ accessFlags := 2, nameIndex := 9, descriptorIndex := 19, attributes := #[] }] 33 16 #[] #[{ accessFlags := 24, nameIndex := 28, descriptorIndex := 29, attributes := #[] }, { accessFlags := 26, nameIndex := 38, descriptorIndex := 39, attributes := #[] }, { accessFlags := 25, nameIndex := 121, descriptorIndex := 25, attributes := #[] }, { accessFlags := 25, nameIndex := 131, descriptorIndex := 25, attributes := #[] }, { accessFlags := 25, nameIndex := 137, descriptorIndex := 25, attributes := #[] }, { accessFlags := 25, nameIndex := 143, descriptorIndex := 25, attributes := #[] }, { accessFlags := 25, nameIndex := 53, descriptorIndex := 25, attributes := #[] }, { accessFlags := 25, nameIndex := 24, descriptorIndex := 25, attributes := #[] }, { accessFlags := 25, nameIndex := 162, descriptorIndex := 25, attributes := #[] }, { accessFlags := 25, nameIndex := 187, descriptorIndex := 25, attributes := #[] }, { accessFlags := 26, nameIndex := 48, descriptorIndex := 25, attributes := #[] }, { accessFlags := 25, nameIndex := 277, descriptorIndex := 25, attributes := #[] }, { accessFlags := 25, nameIndex := 280, descriptorIndex := 25, attributes := #[] }, { accessFlags := 25, nameIndex := 282, descriptorIndex := 25, attributes := #[] }, { accessFlags := 25, nameIndex := 284, descriptorIndex := 25, attributes := #[] }, { accessFlags := 25, nameIndex := 286, descriptorIndex := 25, attributes := #[] }, { accessFlags := 25, nameIndex := 288, descriptorIndex := 25, attributes := #[] }, { accessFlags := 25, nameIndex := 290, descriptorIndex := 25, attributes := #[] }, { accessFlags := 25, nameIndex := 292, descriptorIndex := 25, attributes := #[] }, { accessFlags := 26, nameIndex := 108, descriptorIndex := 109, attributes := #[] }, { accessFlags := 25, nameIndex := 294, descriptorIndex := 25, attributes := #[] }])
  fields := #[{ name := "U", type := (.object "jdk/internal/misc/Unsafe"), accessFlags := 24, slot := 0, constantValue := 0 }, { name := "BIG_ENDIAN", type := .boolean, accessFlags := 26, slot := 1, constantValue := 0 }, { name := "LOG2_ARRAY_BOOLEAN_INDEX_SCALE", type := .int, accessFlags := 25, slot := 2, constantValue := 0 }, { name := "LOG2_ARRAY_BYTE_INDEX_SCALE", type := .int, accessFlags := 25, slot := 3, constantValue := 0 }, { name := "LOG2_ARRAY_CHAR_INDEX_SCALE", type := .int, accessFlags := 25, slot := 4, constantValue := 0 }, { name := "LOG2_ARRAY_SHORT_INDEX_SCALE", type := .int, accessFlags := 25, slot := 5, constantValue := 0 }, { name := "LOG2_ARRAY_INT_INDEX_SCALE", type := .int, accessFlags := 25, slot := 6, constantValue := 0 }, { name := "LOG2_ARRAY_LONG_INDEX_SCALE", type := .int, accessFlags := 25, slot := 7, constantValue := 0 }, { name := "LOG2_ARRAY_FLOAT_INDEX_SCALE", type := .int, accessFlags := 25, slot := 8, constantValue := 0 }, { name := "LOG2_ARRAY_DOUBLE_INDEX_SCALE", type := .int, accessFlags := 25, slot := 9, constantValue := 0 }, { name := "LOG2_BYTE_BIT_SIZE", type := .int, accessFlags := 26, slot := 10, constantValue := 0 }, { name := "T_BOOLEAN", type := .int, accessFlags := 25, slot := 11, constantValue := 0 }, { name := "T_CHAR", type := .int, accessFlags := 25, slot := 12, constantValue := 0 }, { name := "T_FLOAT", type := .int, accessFlags := 25, slot := 13, constantValue := 0 }, { name := "T_DOUBLE", type := .int, accessFlags := 25, slot := 14, constantValue := 0 }, { name := "T_BYTE", type := .int, accessFlags := 25, slot := 15, constantValue := 0 }, { name := "T_SHORT", type := .int, accessFlags := 25, slot := 16, constantValue := 0 }, { name := "T_INT", type := .int, accessFlags := 25, slot := 17, constantValue := 0 }, { name := "T_LONG", type := .int, accessFlags := 25, slot := 18, constantValue := 0 }, { name := "JLA", type := (.object "jdk/internal/access/JavaLangAccess"), accessFlags := 26, slot := 19, constantValue := 0 }, { name := "SOFT_MAX_ARRAY_LENGTH", type := .int, accessFlags := 25, slot := 20, constantValue := 0 }]
  methods := #[k19m0]
  instanceTypes := #[]
  staticTypes := #[(.object "jdk/internal/misc/Unsafe"), .boolean, .int, .int, .int, .int, .int, .int, .int, .int, .int, .int, .int, .int, .int, .int, .int, .int, .int, (.object "jdk/internal/access/JavaLangAccess"), .int]
  resolved := Array.replicate 378 none
  statics := none }

/-- the primitive byte -/
def k20 : Class := { plain "byte" none with kind := .primitive 'B', accessFlags := 0x411 }
/-- [B -/
def k21 : Class := { plain "[B" (some 0) with kind := .array 20 .byte, interfaces := #[18, 2], accessFlags := 1041 }

/-- the primitive char -/
def k22 : Class := { plain "char" none with kind := .primitive 'C', accessFlags := 0x411 }
/-- [C -/
def k23 : Class := { plain "[C" (some 0) with kind := .array 22 .char, interfaces := #[18, 2], accessFlags := 1041 }

/-- the primitive int -/
def k24 : Class := { plain "int" none with kind := .primitive 'I', accessFlags := 0x411 }
/-- [I -/
def k25 : Class := { plain "[I" (some 0) with kind := .array 24 .int, interfaces := #[18, 2], accessFlags := 1041 }

def heap : Heap := #[{ cls := 7, slots := #[.long 0, .int 1, .null, .int 0, .null, .int 0, .int 0], vm := .statics 7 },
  { cls := 10, slots := #[.null, .null, .null], vm := .statics 10 }]
def classes : Array Class := #[k0, k1, k2, k3, k4, k5, k6, k7, k8, k9, k10, k11, k12, k13, k14, k15, k16, k17, k18, k19, k20, k21, k22, k23, k24, k25]
def interned : List (Array UInt16 × Addr) := []
def slotsUsed : Nat := 10
def theMethod : MethodId := ⟨1, 3⟩
def args0 : Array Value := #[.int 5, .int 6, .int 7, .int 8, .int 9]
def aboutOver (below : List Frame) : State where
  vm := { classes := classes, interned := interned.toArray }
  heap := heap
  slotsUsed := slotsUsed
  threads := #[{ frames := .invoking theMethod args0 :: below }]
def below0 : List Frame := [.native { method := ⟨0, 0⟩, args := #[] }]
def about1 : State := aboutOver below0
def p0 : Program := .bare "" "" ""
def e0 : Env := launch0.env 0 0 0
theorem w_frames : about1.frames = Frame.invoking theMethod args0 :: below0 := rfl
set_option maxRecDepth 65536 in
theorem w_args : argsFit about1.vm theMethod args0 = true := by decide +kernel
set_option maxRecDepth 65536 in
theorem w_heap : heapFits about1 = true := by decide +kernel
set_option maxRecDepth 65536 in
theorem w_runnable : about1.curStatus? = some .runnable := by decide +kernel
set_option maxRecDepth 65536 in
theorem w_alone : about1.alone = true := by decide +kernel
set_option maxRecDepth 65536 in
theorem w_named : about1.methodNamed? x = some theMethod := by decide +kernel
set_option maxRecDepth 65536 in
theorem w_hears : about1.hears theMethod below0 = true := by decide +kernel
set_option maxRecDepth 65536 in
theorem w_ripe : about1.ripe theMethod args0 below0 = true := by decide +kernel
theorem w_running : about1.status = .running := rfl
set_option maxRecDepth 65536 in
theorem w_room : about1.hasRoom e0.platform room_1 = true :=
  launch0.hasRoom_least _ room_1 (by decide +kernel) (by decide +kernel) (by decide +kernel) (by decide +kernel) (by decide +kernel) (by decide +kernel)
theorem allAtoms_all (ts : List Jvm.Cond) (a : Array Jvm.Value) (st : Jvm.State) : (allAtoms ts).before a st = ts.all (fun c => c.before a st) := by
  induction ts with
  | nil => rfl
  | cons c t ih =>
    show (Jvm.Cond.and c (allAtoms t)).before a st = _
    rw [Jvm.Cond.before_and, ih, List.all_cons]
def words1 : List Jvm.Cond := Jvm.Cond.code x code maxLocals ret :: tables_1
/-- a 'code' word, met by the world's own term for the bytes: nothing is compared byte by byte -/
theorem code_word {y : MethodName} {bytes : ByteArray} {mx : Nat} {rt : Option FieldType} {a : Array Value} {s : State} {m : MethodId} {meth : Method} {c : Code} (h1 : s.methodNamed? y = some m) (h2 : s.vm.method? m = some meth) (h3 : meth.code = some c) (h4 : c.code = bytes)
    (h5 : (c.maxLocals == mx && c.exceptionTable.isEmpty && decide (c.maxStack ≤ mostOperands) && decide (meth.sig.returnType = rt) && !meth.locks && decide (parseMethodDescriptor y.desc = some meth.sig)) = true) : (Jvm.Cond.code y bytes mx rt).before a s = true := by
  simp only [Bool.and_eq_true, beq_iff_eq, Bool.not_eq_true', decide_eq_true_eq] at h5
  obtain ⟨⟨⟨⟨⟨g1, g2⟩, g3⟩, g4⟩, g5⟩, g6⟩ := h5
  simp [Cond.before, Cond.holds, Cond.value, h1, h2, h3, h4, g1, g2, g3, g4, g5, g6]
def isCode : Jvm.Cond → Bool
  | .code _ _ _ _ => true
  | _ => false
theorem all_split {L : List Jvm.Cond} {P : Jvm.Cond → Bool} (h1 : L.all (fun c => isCode c || P c) = true) (h2 : ∀ c ∈ L.filter isCode, P c = true) : L.all P = true := by
  refine List.all_eq_true.mpr fun c hc => ?_
  have h := List.all_eq_true.mp h1 c hc
  rcases Bool.eq_false_or_eq_true (isCode c) with hi | hi
  · exact h2 c (List.mem_filter.mpr ⟨hc, hi⟩)
  · simpa [hi] using h
set_option maxRecDepth 65536 in
theorem w_c0 : (Jvm.Cond.code x code maxLocals ret).before args0 about1 = true := code_word (m := ⟨1, 3⟩) (meth := k1m3) (c := k1c3) (by decide +kernel) rfl rfl rfl (by decide +kernel)
set_option maxRecDepth 65536 in
theorem w_c1 : (Jvm.Cond.code ({ cls := "java/lang/String", name := "<init>", desc := "([C)V" } : Jvm.MethodName) jdk_42_method_3_code (2 : Nat) (Option.none : Option Jvm.ClassFile.FieldType)).before args0 about1 = true := code_word (m := ⟨7, 1⟩) (meth := k7m1) (c := k7c1) (by decide +kernel) rfl rfl rfl (by decide +kernel)
set_option maxRecDepth 65536 in
theorem w_c2 : (Jvm.Cond.code ({ cls := "java/lang/String", name := "<init>", desc := "([CIILjava/lang/Void;)V" } : Jvm.MethodName) jdk_42_method_149_code (6 : Nat) (Option.none : Option Jvm.ClassFile.FieldType)).before args0 about1 = true := code_word (m := ⟨7, 6⟩) (meth := k7m6) (c := k7c6) (by decide +kernel) rfl rfl rfl (by decide +kernel)
set_option maxRecDepth 65536 in
theorem w_c3 : (Jvm.Cond.code ({ cls := "java/lang/Object", name := "<init>", desc := "()V" } : Jvm.MethodName) object_method_1_code (1 : Nat) (Option.none : Option Jvm.ClassFile.FieldType)).before args0 about1 = true := code_word (m := ⟨0, 0⟩) (meth := k0m0) (c := k0c0) (by decide +kernel) rfl rfl rfl (by decide +kernel)
set_option maxRecDepth 65536 in
theorem w_c4 : (Jvm.Cond.code ({ cls := "java/lang/StringUTF16", name := "compress", desc := "([CII)[B" } : Jvm.MethodName) jdk_52_method_16_code (6 : Nat) (Option.some (Jvm.ClassFile.FieldType.array Jvm.ClassFile.FieldType.byte))).before args0 about1 = true := code_word (m := ⟨8, 2⟩) (meth := k8m2) (c := k8c2) (by decide +kernel) rfl rfl rfl (by decide +kernel)
set_option maxRecDepth 65536 in
theorem w_c5 : (Jvm.Cond.code ({ cls := "java/lang/StringUTF16", name := "compress", desc := "([CI[BII)I" } : Jvm.MethodName) jdk_52_method_21_code (7 : Nat) (Option.some Jvm.ClassFile.FieldType.int)).before args0 about1 = true := code_word (m := ⟨8, 3⟩) (meth := k8m3) (c := k8c3) (by decide +kernel) rfl rfl rfl (by decide +kernel)
set_option maxRecDepth 65536 in
theorem w_c6 : (Jvm.Cond.code ({ cls := "java/lang/StringUTF16", name := "coderFromArrayLen", desc := "([BI)B" } : Jvm.MethodName) jdk_52_method_15_code (2 : Nat) (Option.some Jvm.ClassFile.FieldType.byte)).before args0 about1 = true := code_word (m := ⟨8, 1⟩) (meth := k8m1) (c := k8c1) (by decide +kernel) rfl rfl rfl (by decide +kernel)
set_option maxRecDepth 65536 in
theorem w_c7 : (Jvm.Cond.code ({ cls := "gatelayer/PathSegments", name := "<init>", desc := "(Ljava/lang/String;I)V" } : Jvm.MethodName) prog_8_method_1_code (3 : Nat) (Option.none : Option Jvm.ClassFile.FieldType)).before args0 about1 = true := code_word (m := ⟨9, 0⟩) (meth := k9m0) (c := k9c0) (by decide +kernel) rfl rfl rfl (by decide +kernel)
set_option maxRecDepth 65536 in
theorem w_c8 : (Jvm.Cond.code ({ cls := "gatelayer/PathSegments", name := "endsAt", desc := "(I)Lgatelayer/PathSegments;" } : Jvm.MethodName) prog_8_method_4_code (2 : Nat) (Option.some (Jvm.ClassFile.FieldType.object "gatelayer/PathSegments"))).before args0 about1 = true := code_word (m := ⟨9, 2⟩) (meth := k9m2) (c := k9c2) (by decide +kernel) rfl rfl rfl (by decide +kernel)
set_option maxRecDepth 65536 in
theorem w_c9 : (Jvm.Cond.code ({ cls := "gatelayer/PathSegments", name := "endsAt", desc := "(II)Lgatelayer/PathSegments;" } : Jvm.MethodName) prog_8_method_5_code (3 : Nat) (Option.some (Jvm.ClassFile.FieldType.object "gatelayer/PathSegments"))).before args0 about1 = true := code_word (m := ⟨9, 3⟩) (meth := k9m3) (c := k9c3) (by decide +kernel) rfl rfl rfl (by decide +kernel)
set_option maxRecDepth 65536 in
theorem w_c10 : (Jvm.Cond.code ({ cls := "gatelayer/PathSegments", name := "length", desc := "()I" } : Jvm.MethodName) prog_8_method_8_code (1 : Nat) (Option.some Jvm.ClassFile.FieldType.int)).before args0 about1 = true := code_word (m := ⟨9, 4⟩) (meth := k9m4) (c := k9c4) (by decide +kernel) rfl rfl rfl (by decide +kernel)
set_option maxRecDepth 65536 in
theorem w_c11 : (Jvm.Cond.code ({ cls := "gatelayer/PathSegments", name := "path", desc := "()Ljava/lang/String;" } : Jvm.MethodName) prog_8_method_9_code (3 : Nat) (Option.some (Jvm.ClassFile.FieldType.object "java/lang/String"))).before args0 about1 = true := code_word (m := ⟨9, 5⟩) (meth := k9m5) (c := k9c5) (by decide +kernel) rfl rfl rfl (by decide +kernel)
set_option maxRecDepth 65536 in
theorem w_c12 : (Jvm.Cond.code ({ cls := "java/lang/String", name := "substring", desc := "(II)Ljava/lang/String;" } : Jvm.MethodName) jdk_42_method_92_code (5 : Nat) (Option.some (Jvm.ClassFile.FieldType.object "java/lang/String"))).before args0 about1 = true := code_word (m := ⟨7, 5⟩) (meth := k7m5) (c := k7c5) (by decide +kernel) rfl rfl rfl (by decide +kernel)
set_option maxRecDepth 65536 in
theorem w_c13 : (Jvm.Cond.code ({ cls := "java/lang/String", name := "length", desc := "()I" } : Jvm.MethodName) jdk_42_method_54_code (1 : Nat) (Option.some Jvm.ClassFile.FieldType.int)).before args0 about1 = true := code_word (m := ⟨7, 3⟩) (meth := k7m3) (c := k7c3) (by decide +kernel) rfl rfl rfl (by decide +kernel)
set_option maxRecDepth 65536 in
theorem w_c14 : (Jvm.Cond.code ({ cls := "java/lang/String", name := "coder", desc := "()B" } : Jvm.MethodName) jdk_42_method_152_code (1 : Nat) (Option.some Jvm.ClassFile.FieldType.byte)).before args0 about1 = true := code_word (m := ⟨7, 9⟩) (meth := k7m9) (c := k7c9) (by decide +kernel) rfl rfl rfl (by decide +kernel)
set_option maxRecDepth 65536 in
theorem w_c15 : (Jvm.Cond.code ({ cls := "java/lang/String", name := "checkBoundsBeginEnd", desc := "(III)V" } : Jvm.MethodName) jdk_42_method_158_code (3 : Nat) (Option.none : Option Jvm.ClassFile.FieldType)).before args0 about1 = true := code_word (m := ⟨7, 13⟩) (meth := k7m13) (c := k7c13) (by decide +kernel) rfl rfl rfl (by decide +kernel)
set_option maxRecDepth 65536 in
theorem w_c16 : (Jvm.Cond.code ({ cls := "jdk/internal/util/Preconditions", name := "checkFromToIndex", desc := "(IIILjava/util/function/BiFunction;)I" } : Jvm.MethodName) jdk_41_method_12_code (4 : Nat) (Option.some Jvm.ClassFile.FieldType.int)).before args0 about1 = true := code_word (m := ⟨10, 2⟩) (meth := k10m2) (c := k10c2) (by decide +kernel) rfl rfl rfl (by decide +kernel)
set_option maxRecDepth 65536 in
theorem w_c17 : (Jvm.Cond.code ({ cls := "java/lang/String", name := "isLatin1", desc := "()Z" } : Jvm.MethodName) jdk_42_method_154_code (1 : Nat) (Option.some Jvm.ClassFile.FieldType.boolean)).before args0 about1 = true := code_word (m := ⟨7, 11⟩) (meth := k7m11) (c := k7c11) (by decide +kernel) rfl rfl rfl (by decide +kernel)
set_option maxRecDepth 65536 in
theorem w_c18 : (Jvm.Cond.code ({ cls := "java/lang/StringLatin1", name := "newString", desc := "([BII)Ljava/lang/String;" } : Jvm.MethodName) jdk_43_method_47_code (3 : Nat) (Option.some (Jvm.ClassFile.FieldType.object "java/lang/String"))).before args0 about1 = true := code_word (m := ⟨11, 3⟩) (meth := k11m3) (c := k11c3) (by decide +kernel) rfl rfl rfl (by decide +kernel)
set_option maxRecDepth 65536 in
theorem w_c19 : (Jvm.Cond.code ({ cls := "java/util/Arrays", name := "copyOfRange", desc := "([BII)[B" } : Jvm.MethodName) jdk_65_method_132_code (3 : Nat) (Option.some (Jvm.ClassFile.FieldType.array Jvm.ClassFile.FieldType.byte))).before args0 about1 = true := code_word (m := ⟨12, 2⟩) (meth := k12m2) (c := k12c2) (by decide +kernel) rfl rfl rfl (by decide +kernel)
set_option maxRecDepth 65536 in
theorem w_c20 : (Jvm.Cond.code ({ cls := "java/util/Arrays", name := "copyOfRangeByte", desc := "([BII)[B" } : Jvm.MethodName) jdk_65_method_133_code (5 : Nat) (Option.some (Jvm.ClassFile.FieldType.array Jvm.ClassFile.FieldType.byte))).before args0 about1 = true := code_word (m := ⟨12, 3⟩) (meth := k12m3) (c := k12c3) (by decide +kernel) rfl rfl rfl (by decide +kernel)
set_option maxRecDepth 65536 in
theorem w_c21 : (Jvm.Cond.code ({ cls := "java/util/Arrays", name := "checkLength", desc := "(II)V" } : Jvm.MethodName) jdk_65_method_131_code (2 : Nat) (Option.none : Option Jvm.ClassFile.FieldType)).before args0 about1 = true := code_word (m := ⟨12, 1⟩) (meth := k12m1) (c := k12c1) (by decide +kernel) rfl rfl rfl (by decide +kernel)
set_option maxRecDepth 65536 in
theorem w_c22 : (Jvm.Cond.code ({ cls := "java/lang/Math", name := "min", desc := "(II)I" } : Jvm.MethodName) jdk_29_method_69_code (2 : Nat) (Option.some Jvm.ClassFile.FieldType.int)).before args0 about1 = true := code_word (m := ⟨13, 1⟩) (meth := k13m1) (c := k13c1) (by decide +kernel) rfl rfl rfl (by decide +kernel)
set_option maxRecDepth 65536 in
theorem w_c23 : (Jvm.Cond.code ({ cls := "java/lang/String", name := "<init>", desc := "([BB)V" } : Jvm.MethodName) jdk_42_method_151_code (3 : Nat) (Option.none : Option Jvm.ClassFile.FieldType)).before args0 about1 = true := code_word (m := ⟨7, 8⟩) (meth := k7m8) (c := k7c8) (by decide +kernel) rfl rfl rfl (by decide +kernel)
set_option maxRecDepth 65536 in
theorem w_c24 : (Jvm.Cond.code ({ cls := "gatelayer/PathSegmentsLengthPinLaw", name := "slashless", desc := "(I)C" } : Jvm.MethodName) method_2_code (2 : Nat) (Option.some Jvm.ClassFile.FieldType.char)).before args0 about1 = true := code_word (m := ⟨1, 1⟩) (meth := k1m1) (c := k1c1) (by decide +kernel) rfl rfl rfl (by decide +kernel)
set_option maxRecDepth 65536 in
theorem w_c25 : (Jvm.Cond.code ({ cls := "gatelayer/PathSegmentsLengthPinLaw", name := "at", desc := "(IIICCCC)C" } : Jvm.MethodName) method_3_code (7 : Nat) (Option.some Jvm.ClassFile.FieldType.char)).before args0 about1 = true := code_word (m := ⟨1, 2⟩) (meth := k1m2) (c := k1c2) (by decide +kernel) rfl rfl rfl (by decide +kernel)
set_option maxRecDepth 65536 in
theorem w_c26 : (Jvm.Cond.code ({ cls := "gatelayer/PathSegments", name := "add", desc := "(II)V" } : Jvm.MethodName) prog_8_method_3_code (3 : Nat) (Option.none : Option Jvm.ClassFile.FieldType)).before args0 about1 = true := code_word (m := ⟨9, 1⟩) (meth := k9m1) (c := k9c1) (by decide +kernel) rfl rfl rfl (by decide +kernel)
set_option maxRecDepth 65536 in
theorem w_c27 : (Jvm.Cond.code ({ cls := "java/lang/StringBuilder", name := "<init>", desc := "(I)V" } : Jvm.MethodName) jdk_67_method_2_code (2 : Nat) (Option.none : Option Jvm.ClassFile.FieldType)).before args0 about1 = true := code_word (m := ⟨17, 1⟩) (meth := k17m1) (c := k17c1) (by decide +kernel) rfl rfl rfl (by decide +kernel)
set_option maxRecDepth 65536 in
theorem w_c28 : (Jvm.Cond.code ({ cls := "java/lang/AbstractStringBuilder", name := "<init>", desc := "(I)V" } : Jvm.MethodName) jdk_68_method_2_code (2 : Nat) (Option.none : Option Jvm.ClassFile.FieldType)).before args0 about1 = true := code_word (m := ⟨16, 1⟩) (meth := k16m1) (c := k16c1) (by decide +kernel) rfl rfl rfl (by decide +kernel)
set_option maxRecDepth 65536 in
theorem w_c29 : (Jvm.Cond.code ({ cls := "java/lang/StringBuilder", name := "append", desc := "(C)Ljava/lang/StringBuilder;" } : Jvm.MethodName) jdk_67_method_14_code (2 : Nat) (Option.some (Jvm.ClassFile.FieldType.object "java/lang/StringBuilder"))).before args0 about1 = true := code_word (m := ⟨17, 3⟩) (meth := k17m3) (c := k17c3) (by decide +kernel) rfl rfl rfl (by decide +kernel)
set_option maxRecDepth 65536 in
theorem w_c30 : (Jvm.Cond.code ({ cls := "java/lang/AbstractStringBuilder", name := "append", desc := "(C)Ljava/lang/AbstractStringBuilder;" } : Jvm.MethodName) jdk_68_method_31_code (2 : Nat) (Option.some (Jvm.ClassFile.FieldType.object "java/lang/AbstractStringBuilder"))).before args0 about1 = true := code_word (m := ⟨16, 5⟩) (meth := k16m5) (c := k16c5) (by decide +kernel) rfl rfl rfl (by decide +kernel)
set_option maxRecDepth 65536 in
theorem w_c31 : (Jvm.Cond.code ({ cls := "java/lang/AbstractStringBuilder", name := "ensureCapacityInternal", desc := "(I)V" } : Jvm.MethodName) jdk_68_method_9_code (3 : Nat) (Option.none : Option Jvm.ClassFile.FieldType)).before args0 about1 = true := code_word (m := ⟨16, 3⟩) (meth := k16m3) (c := k16c3) (by decide +kernel) rfl rfl rfl (by decide +kernel)
set_option maxRecDepth 65536 in
theorem w_c32 : (Jvm.Cond.code ({ cls := "java/lang/AbstractStringBuilder", name := "isLatin1", desc := "()Z" } : Jvm.MethodName) jdk_68_method_68_code (1 : Nat) (Option.some Jvm.ClassFile.FieldType.boolean)).before args0 about1 = true := code_word (m := ⟨16, 7⟩) (meth := k16m7) (c := k16c7) (by decide +kernel) rfl rfl rfl (by decide +kernel)
set_option maxRecDepth 65536 in
theorem w_c33 : (Jvm.Cond.code ({ cls := "java/lang/StringLatin1", name := "canEncode", desc := "(C)Z" } : Jvm.MethodName) jdk_43_method_3_code (1 : Nat) (Option.some Jvm.ClassFile.FieldType.boolean)).before args0 about1 = true := code_word (m := ⟨11, 2⟩) (meth := k11m2) (c := k11c2) (by decide +kernel) rfl rfl rfl (by decide +kernel)
set_option maxRecDepth 65536 in
theorem w_c34 : (Jvm.Cond.code ({ cls := "gatelayer/PathSegments", name := "start", desc := "(I)I" } : Jvm.MethodName) prog_8_method_11_code (2 : Nat) (Option.some Jvm.ClassFile.FieldType.int)).before args0 about1 = true := code_word (m := ⟨9, 6⟩) (meth := k9m6) (c := k9c6) (by decide +kernel) rfl rfl rfl (by decide +kernel)
set_option maxRecDepth 65536 in
theorem w_c35 : (Jvm.Cond.code ({ cls := "gatelayer/PathSegments", name := "end", desc := "(I)I" } : Jvm.MethodName) prog_8_method_12_code (2 : Nat) (Option.some Jvm.ClassFile.FieldType.int)).before args0 about1 = true := code_word (m := ⟨9, 7⟩) (meth := k9m7) (c := k9c7) (by decide +kernel) rfl rfl rfl (by decide +kernel)
set_option maxRecDepth 65536 in
theorem w_c36 : (Jvm.Cond.code ({ cls := "java/lang/StringBuilder", name := "append", desc := "(Ljava/lang/CharSequence;II)Ljava/lang/StringBuilder;" } : Jvm.MethodName) jdk_67_method_10_code (4 : Nat) (Option.some (Jvm.ClassFile.FieldType.object "java/lang/StringBuilder"))).before args0 about1 = true := code_word (m := ⟨17, 2⟩) (meth := k17m2) (c := k17c2) (by decide +kernel) rfl rfl rfl (by decide +kernel)
set_option maxRecDepth 65536 in
theorem w_c37 : (Jvm.Cond.code ({ cls := "java/lang/AbstractStringBuilder", name := "append", desc := "(Ljava/lang/CharSequence;II)Ljava/lang/AbstractStringBuilder;" } : Jvm.MethodName) jdk_68_method_27_code (5 : Nat) (Option.some (Jvm.ClassFile.FieldType.object "java/lang/AbstractStringBuilder"))).before args0 about1 = true := code_word (m := ⟨16, 4⟩) (meth := k16m4) (c := k16c4) (by decide +kernel) rfl rfl rfl (by decide +kernel)
set_option maxRecDepth 65536 in
theorem w_c38 : (Jvm.Cond.code ({ cls := "java/lang/AbstractStringBuilder", name := "appendChars", desc := "(Ljava/lang/String;II)V" } : Jvm.MethodName) jdk_68_method_75_code (8 : Nat) (Option.none : Option Jvm.ClassFile.FieldType)).before args0 about1 = true := code_word (m := ⟨16, 8⟩) (meth := k16m8) (c := k16c8) (by decide +kernel) rfl rfl rfl (by decide +kernel)
set_option maxRecDepth 65536 in
theorem w_c39 : (Jvm.Cond.code ({ cls := "java/lang/String", name := "value", desc := "()[B" } : Jvm.MethodName) jdk_42_method_153_code (1 : Nat) (Option.some (Jvm.ClassFile.FieldType.array Jvm.ClassFile.FieldType.byte))).before args0 about1 = true := code_word (m := ⟨7, 10⟩) (meth := k7m10) (c := k7c10) (by decide +kernel) rfl rfl rfl (by decide +kernel)
set_option maxRecDepth 65536 in
theorem w_c40 : (Jvm.Cond.code ({ cls := "gatelayer/PathSegments", name := "trailingSlash", desc := "()Z" } : Jvm.MethodName) prog_8_method_15_code (1 : Nat) (Option.some Jvm.ClassFile.FieldType.boolean)).before args0 about1 = true := code_word (m := ⟨9, 8⟩) (meth := k9m8) (c := k9c8) (by decide +kernel) rfl rfl rfl (by decide +kernel)
set_option maxRecDepth 65536 in
theorem w_c41 : (Jvm.Cond.code ({ cls := "java/lang/String", name := "charAt", desc := "(I)C" } : Jvm.MethodName) jdk_42_method_56_code (2 : Nat) (Option.some Jvm.ClassFile.FieldType.char)).before args0 about1 = true := code_word (m := ⟨7, 4⟩) (meth := k7m4) (c := k7c4) (by decide +kernel) rfl rfl rfl (by decide +kernel)
set_option maxRecDepth 65536 in
theorem w_c42 : (Jvm.Cond.code ({ cls := "java/lang/StringLatin1", name := "charAt", desc := "([BI)C" } : Jvm.MethodName) jdk_43_method_2_code (2 : Nat) (Option.some Jvm.ClassFile.FieldType.char)).before args0 about1 = true := code_word (m := ⟨11, 1⟩) (meth := k11m1) (c := k11c1) (by decide +kernel) rfl rfl rfl (by decide +kernel)
set_option maxRecDepth 65536 in
theorem w_c43 : (Jvm.Cond.code ({ cls := "java/lang/String", name := "checkIndex", desc := "(II)V" } : Jvm.MethodName) jdk_42_method_155_code (2 : Nat) (Option.none : Option Jvm.ClassFile.FieldType)).before args0 about1 = true := code_word (m := ⟨7, 12⟩) (meth := k7m12) (c := k7c12) (by decide +kernel) rfl rfl rfl (by decide +kernel)
set_option maxRecDepth 65536 in
theorem w_c44 : (Jvm.Cond.code ({ cls := "jdk/internal/util/Preconditions", name := "checkIndex", desc := "(IILjava/util/function/BiFunction;)I" } : Jvm.MethodName) jdk_41_method_11_code (3 : Nat) (Option.some Jvm.ClassFile.FieldType.int)).before args0 about1 = true := code_word (m := ⟨10, 1⟩) (meth := k10m1) (c := k10c1) (by decide +kernel) rfl rfl rfl (by decide +kernel)
set_option maxRecDepth 65536 in
theorem w_c45 : (Jvm.Cond.code ({ cls := "java/lang/StringBuilder", name := "toString", desc := "()Ljava/lang/String;" } : Jvm.MethodName) jdk_67_method_42_code (1 : Nat) (Option.some (Jvm.ClassFile.FieldType.object "java/lang/String"))).before args0 about1 = true := code_word (m := ⟨17, 4⟩) (meth := k17m4) (c := k17c4) (by decide +kernel) rfl rfl rfl (by decide +kernel)
set_option maxRecDepth 65536 in
theorem w_c46 : (Jvm.Cond.code ({ cls := "java/lang/String", name := "<init>", desc := "(Ljava/lang/StringBuilder;)V" } : Jvm.MethodName) jdk_42_method_53_code (2 : Nat) (Option.none : Option Jvm.ClassFile.FieldType)).before args0 about1 = true := code_word (m := ⟨7, 2⟩) (meth := k7m2) (c := k7c2) (by decide +kernel) rfl rfl rfl (by decide +kernel)
set_option maxRecDepth 65536 in
theorem w_c47 : (Jvm.Cond.code ({ cls := "java/lang/String", name := "<init>", desc := "(Ljava/lang/AbstractStringBuilder;Ljava/lang/Void;)V" } : Jvm.MethodName) jdk_42_method_150_code (5 : Nat) (Option.none : Option Jvm.ClassFile.FieldType)).before args0 about1 = true := code_word (m := ⟨7, 7⟩) (meth := k7m7) (c := k7c7) (by decide +kernel) rfl rfl rfl (by decide +kernel)
set_option maxRecDepth 65536 in
theorem w_c48 : (Jvm.Cond.code ({ cls := "java/lang/AbstractStringBuilder", name := "getValue", desc := "()[B" } : Jvm.MethodName) jdk_68_method_64_code (1 : Nat) (Option.some (Jvm.ClassFile.FieldType.array Jvm.ClassFile.FieldType.byte))).before args0 about1 = true := code_word (m := ⟨16, 6⟩) (meth := k16m6) (c := k16c6) (by decide +kernel) rfl rfl rfl (by decide +kernel)
set_option maxRecDepth 65536 in
theorem w_c49 : (Jvm.Cond.code ({ cls := "java/lang/StringBuilder", name := "length", desc := "()I" } : Jvm.MethodName) jdk_67_method_93_code (1 : Nat) (Option.some Jvm.ClassFile.FieldType.int)).before args0 about1 = true := code_word (m := ⟨17, 5⟩) (meth := k17m5) (c := k17c5) (by decide +kernel) rfl rfl rfl (by decide +kernel)
set_option maxRecDepth 65536 in
theorem w_c50 : (Jvm.Cond.code ({ cls := "java/lang/AbstractStringBuilder", name := "length", desc := "()I" } : Jvm.MethodName) jdk_68_method_6_code (1 : Nat) (Option.some Jvm.ClassFile.FieldType.int)).before args0 about1 = true := code_word (m := ⟨16, 2⟩) (meth := k16m2) (c := k16c2) (by decide +kernel) rfl rfl rfl (by decide +kernel)
def codes1 : List Jvm.Cond := [Jvm.Cond.code x code maxLocals ret, Jvm.Cond.code ({ cls := "java/lang/String", name := "<init>", desc := "([C)V" } : Jvm.MethodName) jdk_42_method_3_code (2 : Nat) (Option.none : Option Jvm.ClassFile.FieldType), Jvm.Cond.code ({ cls := "java/lang/String", name := "<init>", desc := "([CIILjava/lang/Void;)V" } : Jvm.MethodName) jdk_42_method_149_code (6 : Nat) (Option.none : Option Jvm.ClassFile.FieldType), Jvm.Cond.code ({ cls := "java/lang/Object", name := "<init>", desc := "()V" } : Jvm.MethodName) object_method_1_code (1 : Nat) (Option.none : Option Jvm.ClassFile.FieldType), Jvm.Cond.code ({ cls := "java/lang/StringUTF16", name := "compress", desc := "([CII)[B" } : Jvm.MethodName) jdk_52_method_16_code (6 : Nat) (Option.some (Jvm.ClassFile.FieldType.array Jvm.ClassFile.FieldType.byte)), Jvm.Cond.code ({ cls := "java/lang/StringUTF16", name := "compress", desc := "([CI[BII)I" } : Jvm.MethodName) jdk_52_method_21_code (7 : Nat) (Option.some Jvm.ClassFile.FieldType.int), Jvm.Cond.code ({ cls := "java/lang/StringUTF16", name := "coderFromArrayLen", desc := "([BI)B" } : Jvm.MethodName) jdk_52_method_15_code (2 : Nat) (Option.some Jvm.ClassFile.FieldType.byte), Jvm.Cond.code ({ cls := "gatelayer/PathSegments", name := "<init>", desc := "(Ljava/lang/String;I)V" } : Jvm.MethodName) prog_8_method_1_code (3 : Nat) (Option.none : Option Jvm.ClassFile.FieldType), Jvm.Cond.code ({ cls := "gatelayer/PathSegments", name := "endsAt", desc := "(I)Lgatelayer/PathSegments;" } : Jvm.MethodName) prog_8_method_4_code (2 : Nat) (Option.some (Jvm.ClassFile.FieldType.object "gatelayer/PathSegments")), Jvm.Cond.code ({ cls := "gatelayer/PathSegments", name := "endsAt", desc := "(II)Lgatelayer/PathSegments;" } : Jvm.MethodName) prog_8_method_5_code (3 : Nat) (Option.some (Jvm.ClassFile.FieldType.object "gatelayer/PathSegments")), Jvm.Cond.code ({ cls := "gatelayer/PathSegments", name := "length", desc := "()I" } : Jvm.MethodName) prog_8_method_8_code (1 : Nat) (Option.some Jvm.ClassFile.FieldType.int), Jvm.Cond.code ({ cls := "gatelayer/PathSegments", name := "path", desc := "()Ljava/lang/String;" } : Jvm.MethodName) prog_8_method_9_code (3 : Nat) (Option.some (Jvm.ClassFile.FieldType.object "java/lang/String")), Jvm.Cond.code ({ cls := "java/lang/String", name := "substring", desc := "(II)Ljava/lang/String;" } : Jvm.MethodName) jdk_42_method_92_code (5 : Nat) (Option.some (Jvm.ClassFile.FieldType.object "java/lang/String")), Jvm.Cond.code ({ cls := "java/lang/String", name := "length", desc := "()I" } : Jvm.MethodName) jdk_42_method_54_code (1 : Nat) (Option.some Jvm.ClassFile.FieldType.int), Jvm.Cond.code ({ cls := "java/lang/String", name := "coder", desc := "()B" } : Jvm.MethodName) jdk_42_method_152_code (1 : Nat) (Option.some Jvm.ClassFile.FieldType.byte), Jvm.Cond.code ({ cls := "java/lang/String", name := "checkBoundsBeginEnd", desc := "(III)V" } : Jvm.MethodName) jdk_42_method_158_code (3 : Nat) (Option.none : Option Jvm.ClassFile.FieldType), Jvm.Cond.code ({ cls := "jdk/internal/util/Preconditions", name := "checkFromToIndex", desc := "(IIILjava/util/function/BiFunction;)I" } : Jvm.MethodName) jdk_41_method_12_code (4 : Nat) (Option.some Jvm.ClassFile.FieldType.int), Jvm.Cond.code ({ cls := "java/lang/String", name := "isLatin1", desc := "()Z" } : Jvm.MethodName) jdk_42_method_154_code (1 : Nat) (Option.some Jvm.ClassFile.FieldType.boolean), Jvm.Cond.code ({ cls := "java/lang/StringLatin1", name := "newString", desc := "([BII)Ljava/lang/String;" } : Jvm.MethodName) jdk_43_method_47_code (3 : Nat) (Option.some (Jvm.ClassFile.FieldType.object "java/lang/String")), Jvm.Cond.code ({ cls := "java/util/Arrays", name := "copyOfRange", desc := "([BII)[B" } : Jvm.MethodName) jdk_65_method_132_code (3 : Nat) (Option.some (Jvm.ClassFile.FieldType.array Jvm.ClassFile.FieldType.byte)), Jvm.Cond.code ({ cls := "java/util/Arrays", name := "copyOfRangeByte", desc := "([BII)[B" } : Jvm.MethodName) jdk_65_method_133_code (5 : Nat) (Option.some (Jvm.ClassFile.FieldType.array Jvm.ClassFile.FieldType.byte)), Jvm.Cond.code ({ cls := "java/util/Arrays", name := "checkLength", desc := "(II)V" } : Jvm.MethodName) jdk_65_method_131_code (2 : Nat) (Option.none : Option Jvm.ClassFile.FieldType), Jvm.Cond.code ({ cls := "java/lang/Math", name := "min", desc := "(II)I" } : Jvm.MethodName) jdk_29_method_69_code (2 : Nat) (Option.some Jvm.ClassFile.FieldType.int), Jvm.Cond.code ({ cls := "java/lang/String", name := "<init>", desc := "([BB)V" } : Jvm.MethodName) jdk_42_method_151_code (3 : Nat) (Option.none : Option Jvm.ClassFile.FieldType), Jvm.Cond.code ({ cls := "gatelayer/PathSegmentsLengthPinLaw", name := "slashless", desc := "(I)C" } : Jvm.MethodName) method_2_code (2 : Nat) (Option.some Jvm.ClassFile.FieldType.char), Jvm.Cond.code ({ cls := "gatelayer/PathSegmentsLengthPinLaw", name := "at", desc := "(IIICCCC)C" } : Jvm.MethodName) method_3_code (7 : Nat) (Option.some Jvm.ClassFile.FieldType.char), Jvm.Cond.code ({ cls := "gatelayer/PathSegments", name := "add", desc := "(II)V" } : Jvm.MethodName) prog_8_method_3_code (3 : Nat) (Option.none : Option Jvm.ClassFile.FieldType), Jvm.Cond.code ({ cls := "java/lang/StringBuilder", name := "<init>", desc := "(I)V" } : Jvm.MethodName) jdk_67_method_2_code (2 : Nat) (Option.none : Option Jvm.ClassFile.FieldType), Jvm.Cond.code ({ cls := "java/lang/AbstractStringBuilder", name := "<init>", desc := "(I)V" } : Jvm.MethodName) jdk_68_method_2_code (2 : Nat) (Option.none : Option Jvm.ClassFile.FieldType), Jvm.Cond.code ({ cls := "java/lang/StringBuilder", name := "append", desc := "(C)Ljava/lang/StringBuilder;" } : Jvm.MethodName) jdk_67_method_14_code (2 : Nat) (Option.some (Jvm.ClassFile.FieldType.object "java/lang/StringBuilder")), Jvm.Cond.code ({ cls := "java/lang/AbstractStringBuilder", name := "append", desc := "(C)Ljava/lang/AbstractStringBuilder;" } : Jvm.MethodName) jdk_68_method_31_code (2 : Nat) (Option.some (Jvm.ClassFile.FieldType.object "java/lang/AbstractStringBuilder")), Jvm.Cond.code ({ cls := "java/lang/AbstractStringBuilder", name := "ensureCapacityInternal", desc := "(I)V" } : Jvm.MethodName) jdk_68_method_9_code (3 : Nat) (Option.none : Option Jvm.ClassFile.FieldType), Jvm.Cond.code ({ cls := "java/lang/AbstractStringBuilder", name := "isLatin1", desc := "()Z" } : Jvm.MethodName) jdk_68_method_68_code (1 : Nat) (Option.some Jvm.ClassFile.FieldType.boolean), Jvm.Cond.code ({ cls := "java/lang/StringLatin1", name := "canEncode", desc := "(C)Z" } : Jvm.MethodName) jdk_43_method_3_code (1 : Nat) (Option.some Jvm.ClassFile.FieldType.boolean), Jvm.Cond.code ({ cls := "gatelayer/PathSegments", name := "start", desc := "(I)I" } : Jvm.MethodName) prog_8_method_11_code (2 : Nat) (Option.some Jvm.ClassFile.FieldType.int), Jvm.Cond.code ({ cls := "gatelayer/PathSegments", name := "end", desc := "(I)I" } : Jvm.MethodName) prog_8_method_12_code (2 : Nat) (Option.some Jvm.ClassFile.FieldType.int), Jvm.Cond.code ({ cls := "java/lang/StringBuilder", name := "append", desc := "(Ljava/lang/CharSequence;II)Ljava/lang/StringBuilder;" } : Jvm.MethodName) jdk_67_method_10_code (4 : Nat) (Option.some (Jvm.ClassFile.FieldType.object "java/lang/StringBuilder")), Jvm.Cond.code ({ cls := "java/lang/AbstractStringBuilder", name := "append", desc := "(Ljava/lang/CharSequence;II)Ljava/lang/AbstractStringBuilder;" } : Jvm.MethodName) jdk_68_method_27_code (5 : Nat) (Option.some (Jvm.ClassFile.FieldType.object "java/lang/AbstractStringBuilder")), Jvm.Cond.code ({ cls := "java/lang/AbstractStringBuilder", name := "appendChars", desc := "(Ljava/lang/String;II)V" } : Jvm.MethodName) jdk_68_method_75_code (8 : Nat) (Option.none : Option Jvm.ClassFile.FieldType), Jvm.Cond.code ({ cls := "java/lang/String", name := "value", desc := "()[B" } : Jvm.MethodName) jdk_42_method_153_code (1 : Nat) (Option.some (Jvm.ClassFile.FieldType.array Jvm.ClassFile.FieldType.byte)), Jvm.Cond.code ({ cls := "gatelayer/PathSegments", name := "trailingSlash", desc := "()Z" } : Jvm.MethodName) prog_8_method_15_code (1 : Nat) (Option.some Jvm.ClassFile.FieldType.boolean), Jvm.Cond.code ({ cls := "java/lang/String", name := "charAt", desc := "(I)C" } : Jvm.MethodName) jdk_42_method_56_code (2 : Nat) (Option.some Jvm.ClassFile.FieldType.char), Jvm.Cond.code ({ cls := "java/lang/StringLatin1", name := "charAt", desc := "([BI)C" } : Jvm.MethodName) jdk_43_method_2_code (2 : Nat) (Option.some Jvm.ClassFile.FieldType.char), Jvm.Cond.code ({ cls := "java/lang/String", name := "checkIndex", desc := "(II)V" } : Jvm.MethodName) jdk_42_method_155_code (2 : Nat) (Option.none : Option Jvm.ClassFile.FieldType), Jvm.Cond.code ({ cls := "jdk/internal/util/Preconditions", name := "checkIndex", desc := "(IILjava/util/function/BiFunction;)I" } : Jvm.MethodName) jdk_41_method_11_code (3 : Nat) (Option.some Jvm.ClassFile.FieldType.int), Jvm.Cond.code ({ cls := "java/lang/StringBuilder", name := "toString", desc := "()Ljava/lang/String;" } : Jvm.MethodName) jdk_67_method_42_code (1 : Nat) (Option.some (Jvm.ClassFile.FieldType.object "java/lang/String")), Jvm.Cond.code ({ cls := "java/lang/String", name := "<init>", desc := "(Ljava/lang/StringBuilder;)V" } : Jvm.MethodName) jdk_42_method_53_code (2 : Nat) (Option.none : Option Jvm.ClassFile.FieldType), Jvm.Cond.code ({ cls := "java/lang/String", name := "<init>", desc := "(Ljava/lang/AbstractStringBuilder;Ljava/lang/Void;)V" } : Jvm.MethodName) jdk_42_method_150_code (5 : Nat) (Option.none : Option Jvm.ClassFile.FieldType), Jvm.Cond.code ({ cls := "java/lang/AbstractStringBuilder", name := "getValue", desc := "()[B" } : Jvm.MethodName) jdk_68_method_64_code (1 : Nat) (Option.some (Jvm.ClassFile.FieldType.array Jvm.ClassFile.FieldType.byte)), Jvm.Cond.code ({ cls := "java/lang/StringBuilder", name := "length", desc := "()I" } : Jvm.MethodName) jdk_67_method_93_code (1 : Nat) (Option.some Jvm.ClassFile.FieldType.int), Jvm.Cond.code ({ cls := "java/lang/AbstractStringBuilder", name := "length", desc := "()I" } : Jvm.MethodName) jdk_68_method_6_code (1 : Nat) (Option.some Jvm.ClassFile.FieldType.int)]
set_option maxRecDepth 65536 in
theorem codes_eq : words1.filter isCode = codes1 := rfl
theorem w_codes : ∀ c ∈ words1.filter isCode, c.before args0 about1 = true := by
  rw [codes_eq]
  intro c hc
  simp only [codes1, List.mem_cons, List.not_mem_nil, or_false] at hc
  rcases hc with rfl | rfl | rfl | rfl | rfl | rfl | rfl | rfl | rfl | rfl | rfl | rfl | rfl | rfl | rfl | rfl | rfl | rfl | rfl | rfl | rfl | rfl | rfl | rfl | rfl | rfl | rfl | rfl | rfl | rfl | rfl | rfl | rfl | rfl | rfl | rfl | rfl | rfl | rfl | rfl | rfl | rfl | rfl | rfl | rfl | rfl | rfl | rfl | rfl | rfl | rfl
  · exact w_c0
  · exact w_c1
  · exact w_c2
  · exact w_c3
  · exact w_c4
  · exact w_c5
  · exact w_c6
  · exact w_c7
  · exact w_c8
  · exact w_c9
  · exact w_c10
  · exact w_c11
  · exact w_c12
  · exact w_c13
  · exact w_c14
  · exact w_c15
  · exact w_c16
  · exact w_c17
  · exact w_c18
  · exact w_c19
  · exact w_c20
  · exact w_c21
  · exact w_c22
  · exact w_c23
  · exact w_c24
  · exact w_c25
  · exact w_c26
  · exact w_c27
  · exact w_c28
  · exact w_c29
  · exact w_c30
  · exact w_c31
  · exact w_c32
  · exact w_c33
  · exact w_c34
  · exact w_c35
  · exact w_c36
  · exact w_c37
  · exact w_c38
  · exact w_c39
  · exact w_c40
  · exact w_c41
  · exact w_c42
  · exact w_c43
  · exact w_c44
  · exact w_c45
  · exact w_c46
  · exact w_c47
  · exact w_c48
  · exact w_c49
  · exact w_c50
set_option maxRecDepth 65536 in
theorem w_t1 : (words1.take 24).all (fun c => isCode c || c.before args0 about1) = true := by decide +kernel
set_option maxRecDepth 65536 in
theorem w_t2 : ((words1.drop 24).take 24).all (fun c => isCode c || c.before args0 about1) = true := by decide +kernel
set_option maxRecDepth 65536 in
theorem w_t3 : (((words1.drop 24).drop 24).take 24).all (fun c => isCode c || c.before args0 about1) = true := by decide +kernel
set_option maxRecDepth 65536 in
theorem w_t4 : ((((words1.drop 24).drop 24).drop 24).take 24).all (fun c => isCode c || c.before args0 about1) = true := by decide +kernel
set_option maxRecDepth 65536 in
theorem w_t5 : (((((words1.drop 24).drop 24).drop 24).drop 24).take 24).all (fun c => isCode c || c.before args0 about1) = true := by decide +kernel
set_option maxRecDepth 65536 in
theorem w_t6 : ((((((words1.drop 24).drop 24).drop 24).drop 24).drop 24).take 24).all (fun c => isCode c || c.before args0 about1) = true := by decide +kernel
set_option maxRecDepth 65536 in
theorem w_t7 : (((((((words1.drop 24).drop 24).drop 24).drop 24).drop 24).drop 24).take 24).all (fun c => isCode c || c.before args0 about1) = true := by decide +kernel
set_option maxRecDepth 65536 in
theorem w_t8 : ((((((((words1.drop 24).drop 24).drop 24).drop 24).drop 24).drop 24).drop 24).take 24).all (fun c => isCode c || c.before args0 about1) = true := by decide +kernel
set_option maxRecDepth 65536 in
theorem w_t9 : (((((((((words1.drop 24).drop 24).drop 24).drop 24).drop 24).drop 24).drop 24).drop 24).take 24).all (fun c => isCode c || c.before args0 about1) = true := by decide +kernel
set_option maxRecDepth 65536 in
theorem w_t10 : ((((((((((words1.drop 24).drop 24).drop 24).drop 24).drop 24).drop 24).drop 24).drop 24).drop 24).take 24).all (fun c => isCode c || c.before args0 about1) = true := by decide +kernel
set_option maxRecDepth 65536 in
theorem w_t11 : (((((((((((words1.drop 24).drop 24).drop 24).drop 24).drop 24).drop 24).drop 24).drop 24).drop 24).drop 24).take 24).all (fun c => isCode c || c.before args0 about1) = true := by decide +kernel
set_option maxRecDepth 65536 in
theorem w_t12 : (((((((((((words1.drop 24).drop 24).drop 24).drop 24).drop 24).drop 24).drop 24).drop 24).drop 24).drop 24).drop 24).all (fun c => isCode c || c.before args0 about1) = true := by decide +kernel
theorem w_tables : (allAtoms (Jvm.Cond.code x code maxLocals ret :: tables_1)).before args0 about1 = true := by
  rw [allAtoms_all]
  show words1.all (fun c => c.before args0 about1) = true
  refine all_split ?_ w_codes
  rw [← List.take_append_drop 24 words1, List.all_append, w_t1, ← List.take_append_drop 24 (words1.drop 24), List.all_append, w_t2, ← List.take_append_drop 24 ((words1.drop 24).drop 24), List.all_append, w_t3, ← List.take_append_drop 24 (((words1.drop 24).drop 24).drop 24), List.all_append, w_t4, ← List.take_append_drop 24 ((((words1.drop 24).drop 24).drop 24).drop 24), List.all_append, w_t5, ← List.take_append_drop 24 (((((words1.drop 24).drop 24).drop 24).drop 24).drop 24), List.all_append, w_t6, ← List.take_append_drop 24 ((((((words1.drop 24).drop 24).drop 24).drop 24).drop 24).drop 24), List.all_append, w_t7, ← List.take_append_drop 24 (((((((words1.drop 24).drop 24).drop 24).drop 24).drop 24).drop 24).drop 24), List.all_append, w_t8, ← List.take_append_drop 24 ((((((((words1.drop 24).drop 24).drop 24).drop 24).drop 24).drop 24).drop 24).drop 24), List.all_append, w_t9, ← List.take_append_drop 24 (((((((((words1.drop 24).drop 24).drop 24).drop 24).drop 24).drop 24).drop 24).drop 24).drop 24), List.all_append, w_t10, ← List.take_append_drop 24 ((((((((((words1.drop 24).drop 24).drop 24).drop 24).drop 24).drop 24).drop 24).drop 24).drop 24).drop 24), List.all_append, w_t11, w_t12]
  rfl
set_option maxRecDepth 65536 in
theorem w_rest : rest_1_c.before args0 about1 = true := by decide +kernel
set_option maxRecDepth 65536 in
theorem w_case : (Jvm.Cond.and given_1 narrow_1).before args0 about1 = true := by decide +kernel
set_option maxRecDepth 65536 in
theorem w_consts : constsHeld consts_1 about1 := Jvm.Lit.constsHeldB_iff.mp (by decide +kernel)
theorem w_applies : (headSpec (Jvm.Cond.code x code maxLocals ret :: tables_1) room_1).applies x e0.platform about1 = true :=
  (Spec.applies_iff w_frames).mpr ⟨w_running, w_runnable, w_alone, w_named, w_hears, w_ripe, w_room, w_tables⟩
theorem atStart : AtStart classFile x code maxLocals ret World_1 tables_1 room_1 Calls_1 rest_1 Pre_1 launch0 p0 e0 about1 theMethod args0 below0 :=
  ⟨lists_1, trivial, launch0.admits_env _ _ _, launch0.least_env, fairChoices_fair.cas, fairChoices_fair.clock, w_frames, w_args, w_heap, w_applies, ⟨w_consts, trivial⟩, w_rest, w_case⟩
end start1
theorem witness_1 : WitnessClaimed_1 := ⟨start1.p0, start1.e0, start1.about1, start1.theMethod, start1.args0, start1.below0, start1.atStart⟩
end Jvm.Pilot.@@N@@
