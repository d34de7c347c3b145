import JvmDerived
import JvmDerived.Pilot.@@N@@Statement
import JvmDerived.Pilot.@@N@@Code
set_option linter.unusedVariables false
set_option linter.unusedSimpArgs false
/- laws to paste: Road.backV, Road.eqW, Road.codOf (cut by pick.py; bodies as the Statement names them) -/
namespace Jvm.Pilot.@@N@@
namespace StrChars
open Jvm Sem ClassFile Op Lib Jvm.Stand Jvm.Free.XT Jvm.Free.ALB Jvm.Free.JM Jvm.Free
open Jvm.Lib.Cold (StaticIs)
/-- a char array whose places are chars -/
def Ch (a : Addr) (A : Cell) (U : State) : Prop := Arr .char a A U ∧ Typed .char A
theorem Ch.mv {a : Addr} {A : Cell} {U U' : State} (h : Ch a A U) (hal : U.vm.Alike U'.vm) (hh : U'.heap = U.heap) : Ch a A U' := ⟨h.1.mv hal hh, h.2⟩
theorem Ch.keep {a : Addr} {A : Cell} {U U' : State} (h : Ch a A U) (hal : U.vm.Alike U'.vm) (hk : U'.heap[a]? = some A) : Ch a A U' := ⟨h.1.keep hal hk, h.2⟩
/-- what place i of a char[]'s cell holds -/
def cv (A : Cell) (i : Nat) : Int32 := match A.slots[i]? with | some (.int x) => x | _ => 0
theorem Ch.get {a : Addr} {A : Cell} {U : State} (h : Ch a A U) {i : Nat} (hi : i < A.slots.size) : A.slots[i]? = some (.int (cv A i)) := by
  have e := Array.getElem?_eq_getElem hi
  have f := h.2 i _ e
  unfold cv; rw [e]
  generalize A.slots[i] = v at f
  cases v <;> simp [fits] at f ⊢
/-- the byte that i2b leaves of a char -/
def lo8 (x : Int32) : Int32 := x.toInt8.toInt32
theorem fits_lo8 (y : Int32) : fits .byte (.int (lo8 y)) = true := by
  have h1 := y.toInt8.le_toInt
  have h2 := y.toInt8.toInt_lt
  simp only [lo8, fits, Bool.and_eq_true, decide_eq_true_eq, Int32.le_iff_toInt_le, Int8.toInt_toInt32, show (-128 : Int32).toInt = -128 from by decide, show (127 : Int32).toInt = 127 from by decide]
  omega
/-- A' is A but that each place j of lo .. hi - 1 holds f j -/
def Laid (A A' : Cell) (lo hi : Nat) (f : Nat → Value) : Prop := A'.cls = A.cls ∧ A'.vm = A.vm ∧ A'.slots.size = A.slots.size ∧ ∀ i, A'.slots[i]? = if lo ≤ i ∧ i < hi then some (f i) else A.slots[i]?
theorem Laid.zero (A : Cell) (lo : Nat) (f : Nat → Value) : Laid A A lo (lo + 0) f := ⟨rfl, rfl, rfl, fun i => by rw [if_neg (by omega)]⟩
theorem Laid.step {A Ak : Cell} {lo k : Nat} {f : Nat → Value} {v : Value} (h : Laid A Ak lo k f) (hlo : lo ≤ k) (hk : k < Ak.slots.size) (hv : v = f k) : Laid A (Ak.setSlot k v) lo (k + 1) f := by
  refine ⟨h.1, h.2.1, by simpa [Cell.setSlot] using h.2.2.1, fun i => ?_⟩
  by_cases e : k = i
  · subst e; rw [Cell.slots_setSlot_self v hk, if_pos (by omega), hv]
  · rw [Cell.slots_setSlot_ne v e, h.2.2.2 i]
    by_cases q : lo ≤ i ∧ i < k
    · rw [if_pos q, if_pos (by omega)]
    · rw [if_neg q, if_neg (by omega)]
def U16 : String := "java/lang/StringUTF16"
namespace Cmp5
def yN : MethodName := ⟨"java/lang/StringUTF16", "compress", "([CI[BII)I"⟩
abbrev yB : ByteArray := jdk_52_method_21_code
theorem d0 : decode yB 0 = .ok (.iconst 0, 1) := by decide +kernel
theorem d1 : decode yB 1 = .ok (.istore 5, 2) := by decide +kernel
theorem d3 : decode yB 3 = .ok (.iload 5, 2) := by decide +kernel
theorem d5 : decode yB 5 = .ok (.iload 4, 2) := by decide +kernel
theorem d7 : decode yB 7 = .ok (.if_icmp (.ge) 37, 3) := by decide +kernel
theorem d10 : decode yB 10 = .ok (.aload_n 0, 1) := by decide +kernel
theorem d11 : decode yB 11 = .ok (.iload_n 1, 1) := by decide +kernel
theorem d12 : decode yB 12 = .ok (.caload, 1) := by decide +kernel
theorem d13 : decode yB 13 = .ok (.istore 6, 2) := by decide +kernel
theorem d15 : decode yB 15 = .ok (.iload 6, 2) := by decide +kernel
theorem d17 : decode yB 17 = .ok (.sipush 255, 3) := by decide +kernel
theorem d20 : decode yB 20 = .ok (.if_icmp (.le) 6, 3) := by decide +kernel
theorem d26 : decode yB 26 = .ok (.aload_n 2, 1) := by decide +kernel
theorem d27 : decode yB 27 = .ok (.iload_n 3, 1) := by decide +kernel
theorem d28 : decode yB 28 = .ok (.iload 6, 2) := by decide +kernel
theorem d30 : decode yB 30 = .ok (.i2b, 1) := by decide +kernel
theorem d31 : decode yB 31 = .ok (.bastore, 1) := by decide +kernel
theorem d32 : decode yB 32 = .ok (.iinc 1 1, 3) := by decide +kernel
theorem d35 : decode yB 35 = .ok (.iinc 3 1, 3) := by decide +kernel
theorem d38 : decode yB 38 = .ok (.iinc 5 1, 3) := by decide +kernel
theorem d41 : decode yB 41 = .ok (.goto (-38), 3) := by decide +kernel
theorem d44 : decode yB 44 = .ok (.iload 4, 2) := by decide +kernel
theorem d46 : decode yB 46 = .ok (.ireturn, 1) := by decide +kernel
def site : List Cond := []
def tab : Cond := tabOf yN yB 7 (some .int) site
def P (b : Addr) (A : Cell) (d : Addr) (B : Cell) (o q len : Nat) (args : Array Value) (s : State) : Prop := args = #[.ref b, .int (Int32.ofNat o), .ref d, .int (Int32.ofNat q), .int (Int32.ofNat len)] ∧ Ch b A s ∧ Arr .byte d B s ∧ b ≠ d ∧ o + len ≤ A.slots.size ∧ q + len ≤ B.slots.size ∧ ∀ i, i < len → ¬ 255 < cv A (o + i)
def E (b : Addr) (A : Cell) (d : Addr) (B : Cell) (o q len : Nat) (r : Option Value) (s u : State) : Prop := r = some (.int (Int32.ofNat len)) ∧ ∃ B', Put d B' s u ∧ Laid B B' q (q + len) (fun j => Value.int (lo8 (cv A (o + (j - q)))))
/-- no char of the range above 255: len; the places written hold each char's low byte -/
theorem law (l : Launch) (b : Addr) (A : Cell) (d : Addr) (B : Cell) (o q len : Nat) : Law l yN 5 5 0 0 yB 7 (some .int) site (P b A d B o q len) (E b A d B o q len) (copyLocs d q len) 0 0 := by
  refine Law.of_walk (plainFor_of_name (by decide +kernel)) (by decide +kernel) (by decide +kernel) (by decide) (fun _ _ h => by rw [h.1]; rfl) (fun _ U U' hal hh h => ⟨h.1, h.2.1.mv hal hh, h.2.2.1.mv hal hh, h.2.2.2⟩) (fun r U U' V V' h1 hal h2 h => ⟨h.1, h.2.elim fun B' q => ⟨B', q.1.mv h1 h2, q.2⟩⟩) ?_
  intro p e s m args below meth c s₁ X0 hexec hbytes hml hret hlk hnm hown hh0 W hP
  obtain ⟨rfl, hA, hB, hne, l1, l2, hp⟩ := hP
  have c1 : Steps p.tables e below (s₁.setTop (entryFrame m #[.ref b, .int (Int32.ofNat o), .ref d, .int (Int32.ofNat q), .int (Int32.ofNat len)] 7)) (s₁.setTop (mkF m 0 #[.val (.ref b), .val (.int (Int32.ofNat o)), .val (.ref d), .val (.int (Int32.ofNat q)), .val (.int (Int32.ofNat len)), .unset, .unset] [])) := entry rfl
  have hA0 := hA.1.mv X0.warmed.alike hh0
  have hB0 := hB.mv X0.warmed.alike hh0
  have a31 := hA.1.2.2.2
  have c2 : Steps p.tables e below (s₁.setTop (entryFrame m #[.ref b, .int (Int32.ofNat o), .ref d, .int (Int32.ofNat q), .int (Int32.ofNat len)] 7)) (s₁.setTop (mkF m 3 #[.val (.ref b), .val (.int (Int32.ofNat o)), .val (.ref d), .val (.int (Int32.ofNat q)), .val (.int (Int32.ofNat len)), .val (.int 0), .unset] [])) := c1.trans (by
    refine iconstV X0.here hexec rfl 0 (hb hbytes d0) (by decide) ?_
    refine XS.istore X0.here hexec rfl (hb hbytes d1) rfl rfl ?_
    exact Steps.refl _)
  have loop : ∀ (r i : Nat), i + r = len → ∀ (z : Slot), (z = .unset ∨ ∃ w, z = .val w ∧ w.category = 1) → ∀ (Tl : State) (Bk : Cell), Stand p l e { frames := 0, locals := 0, cells := 0, slots := 0 } s m #[.ref b, .int (Int32.ofNat o), .ref d, .int (Int32.ofNat q), .int (Int32.ofNat len)] below meth c Tl ([] ++ copyLocs d q i) 0 0 → Put d Bk s₁ Tl → Laid B Bk q (q + i) (fun j => Value.int (lo8 (cv A (o + (j - q))))) →
      Steps p.tables e below (s₁.setTop (entryFrame m #[.ref b, .int (Int32.ofNat o), .ref d, .int (Int32.ofNat q), .int (Int32.ofNat len)] 7)) (Tl.setTop (mkF m 3 #[.val (.ref b), .val (.int (Int32.ofNat (o + i))), .val (.ref d), .val (.int (Int32.ofNat (q + i))), .val (.int (Int32.ofNat len)), .val (.int (Int32.ofNat i)), z] [])) → ∃ (T' : State) (B' : Cell) (z' : Slot), Stand p l e { frames := 0, locals := 0, cells := 0, slots := 0 } s m #[.ref b, .int (Int32.ofNat o), .ref d, .int (Int32.ofNat q), .int (Int32.ofNat len)] below meth c T' ([] ++ copyLocs d q len) 0 0 ∧ Put d B' s₁ T' ∧ Laid B B' q (q + len) (fun j => Value.int (lo8 (cv A (o + (j - q))))) ∧
      Steps p.tables e below (s₁.setTop (entryFrame m #[.ref b, .int (Int32.ofNat o), .ref d, .int (Int32.ofNat q), .int (Int32.ofNat len)] 7)) (T'.setTop (mkF m 3 #[.val (.ref b), .val (.int (Int32.ofNat (o + len))), .val (.ref d), .val (.int (Int32.ofNat (q + len))), .val (.int (Int32.ofNat len)), .val (.int (Int32.ofNat len)), z'] [])) := by
    intro r
    induction r with
    | zero =>
      intro i hi z hz Tl Bk Xl pl fl cl
      have hil : i = len := by omega
      rw [hil] at Xl fl cl
      exact ⟨Tl, Bk, z, Xl, pl, fl, cl⟩
    | succ r ih =>
      intro i hi z hz Tl Bk Xl pl fl cl
      have all := X0.warmed.alike.symm.trans Xl.warmed.alike
      have hAl := hA0.keep all (pl.other hne hA0.1)
      have hBk := hB0.like all pl.1 fl.1 fl.2.1 fl.2.2.1
      have hlt : q + i < Bk.slots.size := by rw [fl.2.2.1]; omega
      have c3 : Steps p.tables e below (s₁.setTop (entryFrame m #[.ref b, .int (Int32.ofNat o), .ref d, .int (Int32.ofNat q), .int (Int32.ofNat len)] 7)) (Tl.setTop (mkF m 12 #[.val (.ref b), .val (.int (Int32.ofNat (o + i))), .val (.ref d), .val (.int (Int32.ofNat (q + i))), .val (.int (Int32.ofNat len)), .val (.int (Int32.ofNat i)), z] [.int (Int32.ofNat (o + i)), .ref b])) := cl.trans (by
        refine XS.iload Xl.here hexec rfl (hb hbytes d3) rfl ?_
        refine XS.iload Xl.here hexec rfl (hb hbytes d5) rfl ?_
        refine XS.icmpNo Xl.here hexec rfl (hb hbytes d7) rfl (ii_ge_f (lt32 (by omega) (by omega))) ?_
        refine XS.aloadN Xl.here hexec rfl (hb hbytes d10) rfl rfl ?_
        refine XS.iloadN Xl.here hexec rfl (hb hbytes d11) rfl ?_
        exact Steps.refl _)
      have c4 : Steps p.tables e below (s₁.setTop (entryFrame m #[.ref b, .int (Int32.ofNat o), .ref d, .int (Int32.ofNat q), .int (Int32.ofNat len)] 7)) (Tl.setTop (mkF m 13 #[.val (.ref b), .val (.int (Int32.ofNat (o + i))), .val (.ref d), .val (.int (Int32.ofNat (q + i))), .val (.int (Int32.ofNat len)), .val (.int (Int32.ofNat i)), z] [.int (cv A (o + i))])) := c3.trans (by
        refine Xl.aget hexec hAl rfl (hA.get (i := o + i) (by omega)) rfl rfl (hb hbytes d12) ?_
        exact Steps.refl _)
      have c5 : Steps p.tables e below (s₁.setTop (entryFrame m #[.ref b, .int (Int32.ofNat o), .ref d, .int (Int32.ofNat q), .int (Int32.ofNat len)] 7)) (Tl.setTop (mkF m 15 #[.val (.ref b), .val (.int (Int32.ofNat (o + i))), .val (.ref d), .val (.int (Int32.ofNat (q + i))), .val (.int (Int32.ofNat len)), .val (.int (Int32.ofNat i)), .val (.int (cv A (o + i)))] [])) := c4.trans (by
        refine XS.istoreS Xl.here hexec rfl (hb hbytes d13) rfl rfl hz ?_
        exact Steps.refl _)
      have c6 : Steps p.tables e below (s₁.setTop (entryFrame m #[.ref b, .int (Int32.ofNat o), .ref d, .int (Int32.ofNat q), .int (Int32.ofNat len)] 7)) (Tl.setTop (mkF m 31 #[.val (.ref b), .val (.int (Int32.ofNat (o + i))), .val (.ref d), .val (.int (Int32.ofNat (q + i))), .val (.int (Int32.ofNat len)), .val (.int (Int32.ofNat i)), .val (.int (cv A (o + i)))] [.int (lo8 (cv A (o + i))), .int (Int32.ofNat (q + i)), .ref d])) := c5.trans (by
        refine XS.iload Xl.here hexec rfl (hb hbytes d15) rfl ?_
        refine sipushV Xl.here hexec rfl 255 (hb hbytes d17) (by decide) ?_
        refine XS.icmpYes Xl.here hexec rfl (pc0 := 20) rfl (hb hbytes d20) rfl (ii_le_t (hp i (by omega))) (by decide) rfl ?_
        refine XS.aloadN Xl.here hexec rfl (hb hbytes d26) rfl rfl ?_
        refine XS.iloadN Xl.here hexec rfl (hb hbytes d27) rfl ?_
        refine XS.iload Xl.here hexec rfl (hb hbytes d28) rfl ?_
        refine i2b Xl.here hexec rfl (hb hbytes d30) rfl ?_
        exact Steps.refl _)
      obtain ⟨T7, X7, p7, st7⟩ := Xl.aput hexec hBk rfl hlt rfl (fits_lo8 (cv A (o + i))) (g := (mkF m 31 #[.val (.ref b), .val (.int (Int32.ofNat (o + i))), .val (.ref d), .val (.int (Int32.ofNat (q + i))), .val (.int (Int32.ofNat len)), .val (.int (Int32.ofNat i)), .val (.int (cv A (o + i)))] [.int (lo8 (cv A (o + i))), .int (Int32.ofNat (q + i)), .ref d])) rfl (rest := []) rfl (hb hbytes d31)
      have c8 : Steps p.tables e below (s₁.setTop (entryFrame m #[.ref b, .int (Int32.ofNat o), .ref d, .int (Int32.ofNat q), .int (Int32.ofNat len)] 7)) (T7.setTop (mkF m 32 #[.val (.ref b), .val (.int (Int32.ofNat (o + i))), .val (.ref d), .val (.int (Int32.ofNat (q + i))), .val (.int (Int32.ofNat len)), .val (.int (Int32.ofNat i)), .val (.int (cv A (o + i)))] [])) := c6.trans (st7 _ (Steps.refl _))
      have c9 : Steps p.tables e below (s₁.setTop (entryFrame m #[.ref b, .int (Int32.ofNat o), .ref d, .int (Int32.ofNat q), .int (Int32.ofNat len)] 7)) (T7.setTop (mkF m 3 #[.val (.ref b), .val (.int (Int32.ofNat (o + i) + 1)), .val (.ref d), .val (.int (Int32.ofNat (q + i) + 1)), .val (.int (Int32.ofNat len)), .val (.int (Int32.ofNat i + 1)), .val (.int (cv A (o + i)))] [])) := c8.trans (by
        refine iincV X7.here hexec rfl 1 (hb hbytes d32) (by decide) rfl rfl ?_
        refine iincV X7.here hexec rfl 1 (hb hbytes d35) (by decide) rfl rfl ?_
        refine iincV X7.here hexec rfl 1 (hb hbytes d38) (by decide) rfl rfl ?_
        refine XS.goto X7.here hexec rfl (pc0 := 41) rfl (hb hbytes d41) (by decide) rfl ?_
        exact Steps.refl _)
      have c10 : Steps p.tables e below (s₁.setTop (entryFrame m #[.ref b, .int (Int32.ofNat o), .ref d, .int (Int32.ofNat q), .int (Int32.ofNat len)] 7)) (T7.setTop (mkF m 3 #[.val (.ref b), .val (.int (Int32.ofNat (o + (i + 1)))), .val (.ref d), .val (.int (Int32.ofNat (q + (i + 1)))), .val (.int (Int32.ofNat len)), .val (.int (Int32.ofNat (i + 1))), .val (.int (cv A (o + i)))] [])) := by
        have := c9
        rw [succ32, succ32, succ32] at this
        exact this
      exact ih (i + 1) (by omega) _ (Or.inr ⟨_, rfl, rfl⟩) T7 _ (by rw [copyLocs_step, ← List.append_assoc]; exact X7) (pl.trans p7) (fl.step (by omega) hlt (by simp)) c10
  obtain ⟨T9, B9, z9, X9, p9, f9, g9⟩ := loop len 0 (by omega) .unset (Or.inl rfl) s₁ B (by simpa [copyLocs] using X0) ⟨hB0.1, fun _ _ => rfl, rfl⟩ (Laid.zero _ _ _) c2
  have c11 : Steps p.tables e below (s₁.setTop (entryFrame m #[.ref b, .int (Int32.ofNat o), .ref d, .int (Int32.ofNat q), .int (Int32.ofNat len)] 7)) (T9.setTop (mkF m 46 #[.val (.ref b), .val (.int (Int32.ofNat (o + len))), .val (.ref d), .val (.int (Int32.ofNat (q + len))), .val (.int (Int32.ofNat len)), .val (.int (Int32.ofNat len)), z9] [.int (Int32.ofNat len)])) := g9.trans (by
    refine XS.iload X9.here hexec rfl (hb hbytes d3) rfl ?_
    refine XS.iload X9.here hexec rfl (hb hbytes d5) rfl ?_
    refine XS.icmpYes X9.here hexec rfl (pc0 := 7) rfl (hb hbytes d7) rfl (ii_ge_t (nlt32 (by omega) (Nat.le_refl _))) (by decide) rfl ?_
    refine XS.iload X9.here hexec rfl (hb hbytes d44) rfl ?_
    exact Steps.refl _)
  exact ⟨T9, some (.int (Int32.ofNat len)), _, _, _, X9, by simp, rfl, rfl, (fun h => by cases h), ⟨rfl, B9, p9.from hh0, f9⟩, fun fs hl => c11.trans (X9.ireturnOut hexec hret rfl (Or.inl rfl) (hb hbytes d46) hl)⟩
end Cmp5
namespace Cmp3
def yN : MethodName := ⟨"java/lang/StringUTF16", "compress", "([CII)[B"⟩
abbrev yB : ByteArray := jdk_52_method_16_code
theorem d0 : decode yB 0 = .ok (.iload_n 2, 1) := by decide +kernel
theorem d1 : decode yB 1 = .ok (.newarray .byte, 2) := by decide +kernel
theorem d3 : decode yB 3 = .ok (.astore_n 3, 1) := by decide +kernel
theorem d4 : decode yB 4 = .ok (.aload_n 0, 1) := by decide +kernel
theorem d5 : decode yB 5 = .ok (.iload_n 1, 1) := by decide +kernel
theorem d6 : decode yB 6 = .ok (.aload_n 3, 1) := by decide +kernel
theorem d7 : decode yB 7 = .ok (.iconst 0, 1) := by decide +kernel
theorem d8 : decode yB 8 = .ok (.iload_n 2, 1) := by decide +kernel
theorem d9 : decode yB 9 = .ok (.invokestatic 115, 3) := by decide +kernel
theorem d12 : decode yB 12 = .ok (.istore 4, 2) := by decide +kernel
theorem d14 : decode yB 14 = .ok (.iload 4, 2) := by decide +kernel
theorem d16 : decode yB 16 = .ok (.iload_n 2, 1) := by decide +kernel
theorem d17 : decode yB 17 = .ok (.if_icmp (.eq) 40, 3) := by decide +kernel
theorem d57 : decode yB 57 = .ok (.aload_n 3, 1) := by decide +kernel
theorem d58 : decode yB 58 = .ok (.areturn, 1) := by decide +kernel
def site : List Cond := [.arrayClass .byte, Cmp5.tab] ++ staticW U16 115 Cmp5.yN
def tab : Cond := tabOf yN yB 6 (some (.array .byte)) site
def P (b : Addr) (A : Cell) (o len : Nat) (args : Array Value) (s : State) : Prop := args = #[.ref b, .int (Int32.ofNat o), .int (Int32.ofNat len)] ∧ Ch b A s ∧ o + len ≤ A.slots.size ∧ len ≤ 536870912 ∧ ∀ i, i < len → ¬ 255 < cv A (o + i)
def E (b : Addr) (A : Cell) (o len : Nat) (r : Option Value) (s u : State) : Prop := NewArr .byte "[B" len (fun j => .int (lo8 (cv A (o + j)))) r s u ∧ u.heap.size = s.heap.size + 1
/-- no char of the range above 255: a new byte[] of their low bytes -/
theorem law (l : Launch) (b : Addr) (A : Cell) (o len : Nat) : Law l yN 3 3 1 18 yB 6 (some (.array .byte)) site (P b A o len) (E b A o len) [] 1 len := by
  refine Law.of_walk (plainFor_of_name (by decide +kernel)) (by decide +kernel) (by decide +kernel) (by decide) (fun _ _ h => by rw [h.1]; rfl) (fun _ U U' hal hh h => ⟨h.1, h.2.1.mv hal hh, h.2.2⟩) (fun r U U' V V' h1 hal h2 h => ⟨NewArr.mv r U U' V V' h1 hal h2 h.1, by rw [h1, h2]; exact h.2⟩) ?_
  intro p e s m args below meth c s₁ X0 hexec hbytes hml hret hlk hnm hown hh0 W hP
  obtain ⟨rfl, hA, l1, l2, hp⟩ := hP
  have a31 := hA.1.2.2.2
  have c1 : Steps p.tables e below (s₁.setTop (entryFrame m #[.ref b, .int (Int32.ofNat o), .int (Int32.ofNat len)] 6)) (s₁.setTop (mkF m 0 #[.val (.ref b), .val (.int (Int32.ofNat o)), .val (.int (Int32.ofNat len)), .unset, .unset, .unset] [])) := entry rfl
  have c2 : Steps p.tables e below (s₁.setTop (entryFrame m #[.ref b, .int (Int32.ofNat o), .int (Int32.ofNat len)] 6)) (s₁.setTop (mkF m 1 #[.val (.ref b), .val (.int (Int32.ofNat o)), .val (.int (Int32.ofNat len)), .unset, .unset, .unset] [.int (Int32.ofNat len)])) := c1.trans (by
    refine XS.iloadN X0.here hexec rfl (hb hbytes d0) rfl ?_
    exact Steps.refl _)
  obtain ⟨T3, B3, X3, ba3, bs3, bv3, bh3, bf3, st3⟩ := X0.anew hexec (atype := .byte) (wk W (.arrayClass .byte)) rfl (by show len * 1 ≤ _; omega) (by omega) (g := (mkF m 1 #[.val (.ref b), .val (.int (Int32.ofNat o)), .val (.int (Int32.ofNat len)), .unset, .unset, .unset] [.int (Int32.ofNat len)])) rfl (hb hbytes d1) (rest := []) rfl (Nat.le_refl _) (by show 0 + len ≤ len; omega)
  rw [hh0] at ba3 st3
  have kp3 : XT.Kept s T3 := (XT.Kept.of_eq hh0).push bh3
  have hA3 := hA.keep X3.warmed.alike (kp3 _ _ hA.1.1)
  have hne : b ≠ s.heap.size := hA.1.ne
  have c4 : Steps p.tables e below (s₁.setTop (entryFrame m #[.ref b, .int (Int32.ofNat o), .int (Int32.ofNat len)] 6)) (T3.setTop (mkF m 3 #[.val (.ref b), .val (.int (Int32.ofNat o)), .val (.int (Int32.ofNat len)), .unset, .unset, .unset] [.ref s.heap.size])) := c2.trans (st3 _ (Steps.refl _))
  have c5 : Steps p.tables e below (s₁.setTop (entryFrame m #[.ref b, .int (Int32.ofNat o), .int (Int32.ofNat len)] 6)) (T3.setTop (mkF m 9 #[.val (.ref b), .val (.int (Int32.ofNat o)), .val (.int (Int32.ofNat len)), .val (.ref s.heap.size), .unset, .unset] [.int (Int32.ofNat len), .int 0, .ref s.heap.size, .int (Int32.ofNat o), .ref b])) := c4.trans (by
    refine XS.astoreN X3.here hexec rfl (hb hbytes d3) rfl rfl rfl ?_
    refine XS.aloadN X3.here hexec rfl (hb hbytes d4) rfl rfl ?_
    refine XS.iloadN X3.here hexec rfl (hb hbytes d5) rfl ?_
    refine XS.aloadN X3.here hexec rfl (hb hbytes d6) rfl rfl ?_
    refine iconstV X3.here hexec rfl 0 (hb hbytes d7) (by decide) ?_
    refine XS.iloadN X3.here hexec rfl (hb hbytes d8) rfl ?_
    exact Steps.refl _)
  obtain ⟨v6, T6, X6, E6, g6⟩ := X3.callS hexec (Cmp5.law l b A s.heap.size B3 o 0 len) hown (wks W (staticW U16 115 Cmp5.yN)) (wk W Cmp5.tab) (W := 0) (Nat.le_of_ble_eq_true rfl) (Nat.le_of_ble_eq_true rfl) (Nat.le_refl _) (by show 0 + len + 0 ≤ len; omega) (g := (mkF m 9 #[.val (.ref b), .val (.int (Int32.ofNat o)), .val (.int (Int32.ofNat len)), .val (.ref s.heap.size), .unset, .unset] [.int (Int32.ofNat len), .int (Int32.ofNat 0), .ref s.heap.size, .int (Int32.ofNat o), .ref b])) rfl (by rw [hml]; rfl) c5 (argsL := [.ref b, .int (Int32.ofNat o), .ref s.heap.size, .int (Int32.ofNat 0), .int (Int32.ofNat len)]) (rest := []) rfl rfl (by show 2 * 0 + 0 ≤ _; decide) (hb hbytes d9) (⟨rfl, hA3, ba3, hne, l1, by rw [bs3]; simp, hp⟩)
  obtain ⟨rfl, B6, p6, f6⟩ := E6
  have c7 : Steps p.tables e below (s₁.setTop (entryFrame m #[.ref b, .int (Int32.ofNat o), .int (Int32.ofNat len)] 6)) (T6.setTop (mkF m 12 #[.val (.ref b), .val (.int (Int32.ofNat o)), .val (.int (Int32.ofNat len)), .val (.ref s.heap.size), .unset, .unset] [.int (Int32.ofNat len)])) := g6
  have c8 : Steps p.tables e below (s₁.setTop (entryFrame m #[.ref b, .int (Int32.ofNat o), .int (Int32.ofNat len)] 6)) (T6.setTop (mkF m 58 #[.val (.ref b), .val (.int (Int32.ofNat o)), .val (.int (Int32.ofNat len)), .val (.ref s.heap.size), .val (.int (Int32.ofNat len)), .unset] [.ref s.heap.size])) := c7.trans (by
    refine XS.istore X6.here hexec rfl (hb hbytes d12) rfl rfl ?_
    refine XS.iload X6.here hexec rfl (hb hbytes d14) rfl ?_
    refine XS.iloadN X6.here hexec rfl (hb hbytes d16) rfl ?_
    refine XS.icmpYes X6.here hexec rfl (pc0 := 17) rfl (hb hbytes d17) rfl (ii_eq_t rfl) (by decide) rfl ?_
    refine XS.aloadN X6.here hexec rfl (hb hbytes d57) rfl rfl ?_
    exact Steps.refl _)
  have X8 := X6.wide (L' := []) (cells' := 1) (slots' := len) (fun x hx hlt => by
    simp only [List.nil_append, copyLocs, List.mem_map, List.mem_range] at hx
    obtain ⟨i, -, rfl⟩ := hx
    exact absurd hlt (Nat.lt_irrefl _)) (Nat.le_refl _) (by omega)
  exact ⟨T6, some (.ref s.heap.size), _, _, _, X8, rfl, rfl, rfl, (fun h => by cases h), ⟨⟨rfl, B6, ba3.like (X3.warmed.alike.symm.trans X6.warmed.alike) p6.1 f6.1 f6.2.1 f6.2.2.1, f6.2.1.trans bv3, by rw [X6.warmed.alike.findClass, f6.1]; exact bf3, by rw [f6.2.2.1, bs3]; simp, fun j hj => by rw [f6.2.2.2 j, if_pos (by omega)]; rfl, kp3.put p6 (Nat.le_refl _)⟩, by rw [p6.2.2, bh3, hh0]; simp⟩, fun fs hl => c8.trans (X8.areturnOut hexec rfl hret rfl (hb hbytes d58) hl)⟩
end Cmp3
namespace CodL
def yN : MethodName := ⟨"java/lang/StringUTF16", "coderFromArrayLen", "([BI)B"⟩
abbrev yB : ByteArray := jdk_52_method_15_code
theorem d0 : decode yB 0 = .ok (.iload_n 1, 1) := by decide +kernel
theorem d1 : decode yB 1 = .ok (.aload_n 0, 1) := by decide +kernel
theorem d2 : decode yB 2 = .ok (.arraylength, 1) := by decide +kernel
theorem d3 : decode yB 3 = .ok (.isub, 1) := by decide +kernel
theorem d4 : decode yB 4 = .ok (.bipush 31, 2) := by decide +kernel
theorem d6 : decode yB 6 = .ok (.iushr, 1) := by decide +kernel
theorem d7 : decode yB 7 = .ok (.i2b, 1) := by decide +kernel
theorem d8 : decode yB 8 = .ok (.ireturn, 1) := by decide +kernel
def site : List Cond := []
def tab : Cond := tabOf yN yB 2 (some .byte) site
def P (d : Addr) (B : Cell) (args : Array Value) (s : State) : Prop := args = #[.ref d, .int (Int32.ofNat B.slots.size)] ∧ Arr .byte d B s
def E (r : Option Value) (s u : State) : Prop := XT.PureE (some (.int 0)) r s u
/-- an array as long as the number of chars: LATIN1 -/
theorem law (l : Launch) (d : Addr) (B : Cell) : Law l yN 2 2 0 0 yB 2 (some .byte) site (P d B) E [] 0 0 := by
  refine Law.of_walk (plainFor_of_name (by decide +kernel)) (by decide +kernel) (by decide +kernel) (by decide) (fun _ _ h => by rw [h.1]; rfl) (fun _ U U' hal hh h => ⟨h.1, h.2.mv hal hh⟩) (fun r U U' V V' h1 hal h2 h => XT.PureE.mv r U U' V V' h1 hal h2 h) ?_
  intro p e s m args below meth c s₁ X0 hexec hbytes hml hret hlk hnm hown hh0 W hP
  obtain ⟨rfl, hB⟩ := hP
  have hB0 := hB.mv X0.warmed.alike hh0
  have c1 : Steps p.tables e below (s₁.setTop (entryFrame m #[.ref d, .int (Int32.ofNat B.slots.size)] 2)) (s₁.setTop (mkF m 0 #[.val (.ref d), .val (.int (Int32.ofNat B.slots.size))] [])) := entry rfl
  have c2 : Steps p.tables e below (s₁.setTop (entryFrame m #[.ref d, .int (Int32.ofNat B.slots.size)] 2)) (s₁.setTop (mkF m 2 #[.val (.ref d), .val (.int (Int32.ofNat B.slots.size))] [.ref d, .int (Int32.ofNat B.slots.size)])) := c1.trans (by
    refine XS.iloadN X0.here hexec rfl (hb hbytes d0) rfl ?_
    refine XS.aloadN X0.here hexec rfl (hb hbytes d1) rfl rfl ?_
    exact Steps.refl _)
  have c3 : Steps p.tables e below (s₁.setTop (entryFrame m #[.ref d, .int (Int32.ofNat B.slots.size)] 2)) (s₁.setTop (mkF m 8 #[.val (.ref d), .val (.int (Int32.ofNat B.slots.size))] [.int (lo8 (ushr (Int32.ofNat B.slots.size - Int32.ofNat B.slots.size) 31))])) := c2.trans (by
    refine X0.alen hexec hB0 rfl rfl (hb hbytes d2) ?_
    refine XS.isub X0.here hexec rfl (hb hbytes d3) rfl ?_
    refine bipushV X0.here hexec rfl 31 (hb hbytes d4) (by decide) ?_
    refine iushr X0.here hexec rfl (hb hbytes d6) rfl ?_
    refine i2b X0.here hexec rfl (hb hbytes d7) rfl ?_
    exact Steps.refl _)
  have e0 : lo8 (ushr (Int32.ofNat B.slots.size - Int32.ofNat B.slots.size) 31) = 0 := by rw [Int32.sub_self]; decide
  rw [e0] at c3
  exact ⟨s₁, some (.int 0), _, _, _, X0, rfl, rfl, rfl, (fun h => by cases h), ⟨rfl, hh0⟩, fun fs hl => c3.trans (X0.ireturnOut hexec hret rfl (Or.inr (Or.inr (Or.inl rfl))) (hb hbytes d8) hl)⟩
end CodL
/-- the String at a is Latin-1 over a new byte[] (the heap's one new cell): the low bytes of the len chars of A from o on; every cell but a is kept -/
def Got (a : Addr) (D : Cell) (fV fC : Field) (A : Cell) (o len : Nat) (r : Option Value) (s u : State) : Prop := r = none ∧ ∃ D' V : Cell, Blank "java/lang/String" a D' u ∧ Same D D' [fV.slot, fC.slot] ∧ D'.slots[fV.slot]? = some (.ref s.heap.size) ∧ D'.slots[fC.slot]? = some (.int 0) ∧ Arr .byte s.heap.size V u ∧ V.vm = .none ∧ u.vm.findClass "[B" = some V.cls ∧ V.slots.size = len ∧ (∀ j, j < len → V.slots[j]? = some (.int (lo8 (cv A (o + j))))) ∧ (∀ (y : Addr) (c : Cell), y ≠ a → s.heap[y]? = some c → u.heap[y]? = some c) ∧ u.heap.size = s.heap.size + 1
theorem Got.mv {a : Addr} {D A : Cell} {fV fC : Field} {o len : Nat} : ∀ r (U U' V V' : State), U'.heap = U.heap → V.vm.Alike V'.vm → V'.heap = V.heap → Got a D fV fC A o len r U V → Got a D fV fC A o len r U' V' :=
  fun r U U' V V' h1 hal h2 ⟨e0, D', X, a1, a2, a3, a4, a5, a6, a7, a8, a9, a10, a11⟩ => ⟨e0, D', X, a1.mv hal h2, a2, by rw [h1]; exact a3, a4, by rw [h1]; exact a5.mv hal h2, a6, by rw [hal.findClass]; exact a7, a8, a9, by rw [h1, h2]; exact a10, by rw [h1, h2]; exact a11⟩
namespace New4
def yN : MethodName := ⟨"java/lang/String", "<init>", "([CIILjava/lang/Void;)V"⟩
abbrev yB : ByteArray := jdk_42_method_149_code
theorem d0 : decode yB 0 = .ok (.aload_n 0, 1) := by decide +kernel
theorem d1 : decode yB 1 = .ok (.invokespecial 1, 3) := by decide +kernel
theorem d4 : decode yB 4 = .ok (.iload_n 3, 1) := by decide +kernel
theorem d5 : decode yB 5 = .ok (.ifCond (.ne) 22, 3) := by decide +kernel
theorem d27 : decode yB 27 = .ok (.getstatic 38, 3) := by decide +kernel
theorem d30 : decode yB 30 = .ok (.ifCond (.eq) 28, 3) := by decide +kernel
theorem d33 : decode yB 33 = .ok (.aload_n 1, 1) := by decide +kernel
theorem d34 : decode yB 34 = .ok (.iload_n 2, 1) := by decide +kernel
theorem d35 : decode yB 35 = .ok (.iload_n 3, 1) := by decide +kernel
theorem d36 : decode yB 36 = .ok (.invokestatic 177, 3) := by decide +kernel
theorem d39 : decode yB 39 = .ok (.astore 5, 2) := by decide +kernel
theorem d41 : decode yB 41 = .ok (.aload_n 0, 1) := by decide +kernel
theorem d42 : decode yB 42 = .ok (.aload 5, 2) := by decide +kernel
theorem d44 : decode yB 44 = .ok (.iload_n 3, 1) := by decide +kernel
theorem d45 : decode yB 45 = .ok (.invokestatic 47, 3) := by decide +kernel
theorem d48 : decode yB 48 = .ok (.putfield 15, 3) := by decide +kernel
theorem d51 : decode yB 51 = .ok (.aload_n 0, 1) := by decide +kernel
theorem d52 : decode yB 52 = .ok (.aload 5, 2) := by decide +kernel
theorem d54 : decode yB 54 = .ok (.putfield 9, 3) := by decide +kernel
theorem d57 : decode yB 57 = .ok (.return_, 1) := by decide +kernel
def site : List Cond := [.fieldLink "java/lang/String" 38 "java/lang/String" "COMPACT_STRINGS" "Z", Cmp3.tab, CodL.tab, .laysFinal "java/lang/String" "java/lang/String" "value" "[B", .fieldLink "java/lang/String" 9 "java/lang/String" "value" "[B", .laysFinal "java/lang/String" "java/lang/String" "coder" "B", .fieldLink "java/lang/String" 15 "java/lang/String" "coder" "B"] ++ objW "java/lang/String" 1 ++ staticW "java/lang/String" 177 Cmp3.yN ++ staticW "java/lang/String" 47 CodL.yN
def tab : Cond := tabOf yN yB 6 none site
def P (a : Addr) (D : Cell) (fV fC : Field) (b : Addr) (A : Cell) (z : Int32) (o len : Nat) (args : Array Value) (s : State) : Prop := args = #[.ref a, .ref b, .int (Int32.ofNat o), .int (Int32.ofNat len), .null] ∧ Blank "java/lang/String" a D s ∧ Found "java/lang/String" "value" "[B" fV s ∧ Found "java/lang/String" "coder" "B" fC s ∧ Ch b A s ∧ StaticIs s "java/lang/String" "COMPACT_STRINGS" "Z" (.int z) ∧ ¬ z = 0 ∧ 0 < len ∧ o + len ≤ A.slots.size ∧ len ≤ 536870912 ∧ ∀ i, i < len → ¬ 255 < cv A (o + i)
def E (a : Addr) (D : Cell) (fV fC : Field) (A : Cell) (o len : Nat) (r : Option Value) (s u : State) : Prop := Got a D fV fC A o len r s u
/-- len > 0, no char of the range above 255: a Latin-1 String of their low bytes -/
theorem law (l : Launch) (a : Addr) (D : Cell) (fV fC : Field) (b : Addr) (A : Cell) (z : Int32) (o len : Nat) : Law l yN 5 4 2 35 yB 6 none site (P a D fV fC b A z o len) (E a D fV fC A o len) [⟨a, fC.slot⟩, ⟨a, fV.slot⟩] 1 len := by
  refine Law.of_walk (plainFor_of_name (by decide +kernel)) (by decide +kernel) (by decide +kernel) (by decide) (fun _ _ h => by rw [h.1]; rfl) (fun _ U U' hal hh h => ⟨h.1, h.2.1.mv hal hh, h.2.2.1.al hal, h.2.2.2.1.al hal, h.2.2.2.2.1.mv hal hh, h.2.2.2.2.2.1.there hal hh, h.2.2.2.2.2.2⟩) (fun r U U' V V' h1 hal h2 h => Got.mv r U U' V V' h1 hal h2 h) ?_
  intro p e s m args below meth c s₁ X0 hexec hbytes hml hret hlk hnm hown hh0 W hP
  obtain ⟨rfl, hB, f1, f2, hA, s1, hz, l0, l1, l2, hp⟩ := hP
  have a31 := hA.1.2.2.2
  have c1 : Steps p.tables e below (s₁.setTop (entryFrame m #[.ref a, .ref b, .int (Int32.ofNat o), .int (Int32.ofNat len), .null] 6)) (s₁.setTop (mkF m 0 #[.val (.ref a), .val (.ref b), .val (.int (Int32.ofNat o)), .val (.int (Int32.ofNat len)), .val .null, .unset] [])) := entry rfl
  have c2 : Steps p.tables e below (s₁.setTop (entryFrame m #[.ref a, .ref b, .int (Int32.ofNat o), .int (Int32.ofNat len), .null] 6)) (s₁.setTop (mkF m 1 #[.val (.ref a), .val (.ref b), .val (.int (Int32.ofNat o)), .val (.int (Int32.ofNat len)), .val .null, .unset] [.ref a])) := c1.trans (by
    refine XS.aloadN X0.here hexec rfl (hb hbytes d0) rfl rfl ?_
    exact Steps.refl _)
  obtain ⟨T3, X3, q3, st3⟩ := X0.oinit hexec hown (wks W (objW "java/lang/String" 1)) (g := (mkF m 1 #[.val (.ref a), .val (.ref b), .val (.int (Int32.ofNat o)), .val (.int (Int32.ofNat len)), .val .null, .unset] [.ref a])) rfl (by rw [hml]; rfl) (rest := []) rfl (hb hbytes d1) (W := 0) (by show 2 * 0 + 0 ≤ _; decide) (Nat.le_of_ble_eq_true rfl) (Nat.le_of_ble_eq_true rfl)
  have hh3 := q3.trans hh0
  have c4 : Steps p.tables e below (s₁.setTop (entryFrame m #[.ref a, .ref b, .int (Int32.ofNat o), .int (Int32.ofNat len), .null] 6)) (T3.setTop (mkF m 27 #[.val (.ref a), .val (.ref b), .val (.int (Int32.ofNat o)), .val (.int (Int32.ofNat len)), .val .null, .unset] [])) := (c2.trans (st3 _ (Steps.refl _))).trans (by
    refine XS.iloadN X3.here hexec rfl (hb hbytes d4) rfl ?_
    refine XS.ifYes X3.here hexec rfl (pc0 := 5) rfl (hb hbytes d5) rfl (i0_ne_t (nz32 (by omega) l0)) (by decide) rfl ?_
    exact Steps.refl _)
  obtain ⟨T5, X5, q5, st5⟩ := X3.sget hexec hown (wk W (.fieldLink "java/lang/String" 38 "java/lang/String" "COMPACT_STRINGS" "Z")) s1 (fun _ _ h => by rw [hh3]; exact h) (g := (mkF m 27 #[.val (.ref a), .val (.ref b), .val (.int (Int32.ofNat o)), .val (.int (Int32.ofNat len)), .val .null, .unset] [])) rfl (hb hbytes d27)
  have hh5 := q5.trans hh3
  have c6 : Steps p.tables e below (s₁.setTop (entryFrame m #[.ref a, .ref b, .int (Int32.ofNat o), .int (Int32.ofNat len), .null] 6)) (T5.setTop (mkF m 30 #[.val (.ref a), .val (.ref b), .val (.int (Int32.ofNat o)), .val (.int (Int32.ofNat len)), .val .null, .unset] [.int z])) := c4.trans (st5 _ (Steps.refl _))
  have c7 : Steps p.tables e below (s₁.setTop (entryFrame m #[.ref a, .ref b, .int (Int32.ofNat o), .int (Int32.ofNat len), .null] 6)) (T5.setTop (mkF m 36 #[.val (.ref a), .val (.ref b), .val (.int (Int32.ofNat o)), .val (.int (Int32.ofNat len)), .val .null, .unset] [.int (Int32.ofNat len), .int (Int32.ofNat o), .ref b])) := c6.trans (by
    refine XS.ifNo X5.here hexec rfl (hb hbytes d30) rfl (i0_eq_f hz) ?_
    refine XS.aloadN X5.here hexec rfl (hb hbytes d33) rfl rfl ?_
    refine XS.iloadN X5.here hexec rfl (hb hbytes d34) rfl ?_
    refine XS.iloadN X5.here hexec rfl (hb hbytes d35) rfl ?_
    exact Steps.refl _)
  obtain ⟨v8, T8, X8, E8, g8⟩ := X5.callS hexec (Cmp3.law l b A o len) hown (wks W (staticW "java/lang/String" 177 Cmp3.yN)) (wk W Cmp3.tab) (W := 0) (Nat.le_of_ble_eq_true rfl) (Nat.le_of_ble_eq_true rfl) (Nat.le_refl _) (by show 0 + len ≤ len; omega) (g := (mkF m 36 #[.val (.ref a), .val (.ref b), .val (.int (Int32.ofNat o)), .val (.int (Int32.ofNat len)), .val .null, .unset] [.int (Int32.ofNat len), .int (Int32.ofNat o), .ref b])) rfl (by rw [hml]; rfl) c7 (argsL := [.ref b, .int (Int32.ofNat o), .int (Int32.ofNat len)]) (rest := []) rfl rfl (by show 2 * 0 + 0 ≤ _; decide) (hb hbytes d36) (⟨rfl, hA.mv X5.warmed.alike hh5, l1, l2, hp⟩)
  obtain ⟨e8, z8⟩ := E8
  obtain ⟨rfl, N, n1, n2, n3, n4, n5, n6⟩ := NewArr.mv _ T5 s _ _ hh5.symm (Vm.Alike.refl _) rfl e8
  rw [hh5] at z8
  have hB1 := hB.keep X8.warmed.alike (n6 _ _ hB.1)
  have hne : s.heap.size ≠ a := (Nat.ne_of_lt (Array.getElem?_eq_some_iff.mp hB.1).1).symm
  have c9 : Steps p.tables e below (s₁.setTop (entryFrame m #[.ref a, .ref b, .int (Int32.ofNat o), .int (Int32.ofNat len), .null] 6)) (T8.setTop (mkF m 39 #[.val (.ref a), .val (.ref b), .val (.int (Int32.ofNat o)), .val (.int (Int32.ofNat len)), .val .null, .unset] [.ref s.heap.size])) := g8
  have c10 : Steps p.tables e below (s₁.setTop (entryFrame m #[.ref a, .ref b, .int (Int32.ofNat o), .int (Int32.ofNat len), .null] 6)) (T8.setTop (mkF m 45 #[.val (.ref a), .val (.ref b), .val (.int (Int32.ofNat o)), .val (.int (Int32.ofNat len)), .val .null, .val (.ref s.heap.size)] [.int (Int32.ofNat N.slots.size), .ref s.heap.size, .ref a])) := by
    have hc : Steps p.tables e below (s₁.setTop (entryFrame m #[.ref a, .ref b, .int (Int32.ofNat o), .int (Int32.ofNat len), .null] 6)) (T8.setTop (mkF m 45 #[.val (.ref a), .val (.ref b), .val (.int (Int32.ofNat o)), .val (.int (Int32.ofNat len)), .val .null, .val (.ref s.heap.size)] [.int (Int32.ofNat len), .ref s.heap.size, .ref a])) := c9.trans (by
      refine XS.astore X8.here hexec rfl (hb hbytes d39) rfl rfl rfl ?_
      refine XS.aloadN X8.here hexec rfl (hb hbytes d41) rfl rfl ?_
      refine XS.aload X8.here hexec rfl (hb hbytes d42) rfl rfl ?_
      refine XS.iloadN X8.here hexec rfl (hb hbytes d44) rfl ?_
      exact Steps.refl _)
    rw [n4]; exact hc
  obtain ⟨v11, T11, X11, E11, g11⟩ := X8.callS hexec (CodL.law l s.heap.size N) hown (wks W (staticW "java/lang/String" 47 CodL.yN)) (wk W CodL.tab) (W := 1) (Nat.le_of_ble_eq_true rfl) (Nat.le_of_ble_eq_true rfl) (Nat.le_refl _) (by show 0 + len + 0 ≤ len; omega) (g := (mkF m 45 #[.val (.ref a), .val (.ref b), .val (.int (Int32.ofNat o)), .val (.int (Int32.ofNat len)), .val .null, .val (.ref s.heap.size)] [.int (Int32.ofNat N.slots.size), .ref s.heap.size, .ref a])) rfl (by rw [hml]; rfl) c10 (argsL := [.ref s.heap.size, .int (Int32.ofNat N.slots.size)]) (rest := [.ref a]) rfl rfl (by show 2 * 0 + (1 + 0) ≤ _; decide) (hb hbytes d45) (⟨rfl, n1⟩)
  obtain ⟨rfl, q11⟩ := E11
  have hB11 := hB1.mv (X8.warmed.alike.symm.trans X11.warmed.alike) q11
  have c12 : Steps p.tables e below (s₁.setTop (entryFrame m #[.ref a, .ref b, .int (Int32.ofNat o), .int (Int32.ofNat len), .null] 6)) (T11.setTop (mkF m 48 #[.val (.ref a), .val (.ref b), .val (.int (Int32.ofNat o)), .val (.int (Int32.ofNat len)), .val .null, .val (.ref s.heap.size)] [.int 0, .ref a])) := g11
  obtain ⟨T13, X13, p13, bl13, sl13, st13⟩ := X11.finit hexec hown (wk W (.fieldLink "java/lang/String" 15 "java/lang/String" "coder" "B")) (Or.inr ⟨_, (wk W (.laysFinal "java/lang/String" "java/lang/String" "coder" "B"))⟩) (Or.inl ⟨rfl, hnm⟩) f2 (Or.inl rfl) hB11 (t := .byte) (by decide +kernel) rfl (g := (mkF m 48 #[.val (.ref a), .val (.ref b), .val (.int (Int32.ofNat o)), .val (.int (Int32.ofNat len)), .val .null, .val (.ref s.heap.size)] [.int 0, .ref a])) rfl (rest := []) rfl (hb hbytes d48)
  have c14 : Steps p.tables e below (s₁.setTop (entryFrame m #[.ref a, .ref b, .int (Int32.ofNat o), .int (Int32.ofNat len), .null] 6)) (T13.setTop (mkF m 54 #[.val (.ref a), .val (.ref b), .val (.int (Int32.ofNat o)), .val (.int (Int32.ofNat len)), .val .null, .val (.ref s.heap.size)] [.ref s.heap.size, .ref a])) := (c12.trans (st13 _ (Steps.refl _))).trans (by
    refine XS.aloadN X13.here hexec rfl (hb hbytes d51) rfl rfl ?_
    refine XS.aload X13.here hexec rfl (hb hbytes d52) rfl rfl ?_
    exact Steps.refl _)
  obtain ⟨T15, X15, p15, bl15, sl15, st15⟩ := X13.finit hexec hown (wk W (.fieldLink "java/lang/String" 9 "java/lang/String" "value" "[B")) (Or.inr ⟨_, (wk W (.laysFinal "java/lang/String" "java/lang/String" "value" "[B"))⟩) (Or.inl ⟨rfl, hnm⟩) f1 (Or.inl rfl) bl13 (t := (.array .byte)) (by decide +kernel) rfl (g := (mkF m 54 #[.val (.ref a), .val (.ref b), .val (.int (Int32.ofNat o)), .val (.int (Int32.ofNat len)), .val .null, .val (.ref s.heap.size)] [.ref s.heap.size, .ref a])) rfl (rest := []) rfl (hb hbytes d54)
  have c16 : Steps p.tables e below (s₁.setTop (entryFrame m #[.ref a, .ref b, .int (Int32.ofNat o), .int (Int32.ofNat len), .null] 6)) (T15.setTop (mkF m 57 #[.val (.ref a), .val (.ref b), .val (.int (Int32.ofNat o)), .val (.int (Int32.ofNat len)), .val .null, .val (.ref s.heap.size)] [])) := c14.trans (st15 _ (Steps.refl _))
  have ap := apart (Or.inr ⟨_, (wk W (.laysFinal "java/lang/String" "java/lang/String" "value" "[B"))⟩) (Or.inr ⟨_, (wk W (.laysFinal "java/lang/String" "java/lang/String" "coder" "B"))⟩) f1 f2 (t₁ := .array .byte) (t₂ := .byte) (by decide +kernel) (by decide +kernel) (by decide)
  have al := X8.warmed.alike.symm.trans X15.warmed.alike
  have n7 : T11.heap[s.heap.size]? = some N := by rw [q11]; exact n1.1
  exact ⟨T15, none, _, _, _, X15, by simp, rfl, by omega, (fun _ => rfl), ⟨rfl, _, N, bl15, ((Same.refl D _).set _ (by simp)).set _ (by simp), sl15, (Cell.slots_setSlot_ne _ ap).trans sl13, n1.keep al (p15.other hne (p13.other hne n7)), n2, by rw [al.findClass]; exact n3, n4, n5, fun y c h1 h2 => p15.other h1 (p13.other h1 (by rw [q11]; exact n6 y c h2)), by rw [p15.2.2, p13.2.2, q11]; exact z8⟩, fun fs hl => c16.trans (X15.returnOut hexec hret (hb hbytes d57) hl)⟩
end New4
namespace New1
def yN : MethodName := ⟨"java/lang/String", "<init>", "([C)V"⟩
abbrev yB : ByteArray := jdk_42_method_3_code
theorem d0 : decode yB 0 = .ok (.aload_n 0, 1) := by decide +kernel
theorem d1 : decode yB 1 = .ok (.aload_n 1, 1) := by decide +kernel
theorem d2 : decode yB 2 = .ok (.iconst 0, 1) := by decide +kernel
theorem d3 : decode yB 3 = .ok (.aload_n 1, 1) := by decide +kernel
theorem d4 : decode yB 4 = .ok (.arraylength, 1) := by decide +kernel
theorem d5 : decode yB 5 = .ok (.aconst_null, 1) := by decide +kernel
theorem d6 : decode yB 6 = .ok (.invokespecial 27, 3) := by decide +kernel
theorem d9 : decode yB 9 = .ok (.return_, 1) := by decide +kernel
def site : List Cond := [New4.tab] ++ initW "java/lang/String" 27 New4.yN
def tab : Cond := tabOf yN yB 2 none site
def P (a : Addr) (D : Cell) (fV fC : Field) (b : Addr) (A : Cell) (z : Int32) (args : Array Value) (s : State) : Prop := args = #[.ref a, .ref b] ∧ Blank "java/lang/String" a D s ∧ Found "java/lang/String" "value" "[B" fV s ∧ Found "java/lang/String" "coder" "B" fC s ∧ Ch b A s ∧ StaticIs s "java/lang/String" "COMPACT_STRINGS" "Z" (.int z) ∧ ¬ z = 0 ∧ 0 < A.slots.size ∧ A.slots.size ≤ 536870912 ∧ ∀ i, i < A.slots.size → ¬ 255 < cv A i
def E (a : Addr) (D : Cell) (fV fC : Field) (A : Cell) (r : Option Value) (s u : State) : Prop := Got a D fV fC A 0 A.slots.size r s u
/-- new String(chars), not empty, no char above 255: a Latin-1 String of their low bytes -/
theorem law (l : Launch) (a : Addr) (D : Cell) (fV fC : Field) (b : Addr) (A : Cell) (z : Int32) : Law l yN 2 1 3 52 yB 2 none site (P a D fV fC b A z) (E a D fV fC A) [⟨a, fC.slot⟩, ⟨a, fV.slot⟩] 1 A.slots.size := by
  refine Law.of_walk (plainFor_of_name (by decide +kernel)) (by decide +kernel) (by decide +kernel) (by decide) (fun _ _ h => by rw [h.1]; rfl) (fun _ U U' hal hh h => ⟨h.1, h.2.1.mv hal hh, h.2.2.1.al hal, h.2.2.2.1.al hal, h.2.2.2.2.1.mv hal hh, h.2.2.2.2.2.1.there hal hh, h.2.2.2.2.2.2⟩) (fun r U U' V V' h1 hal h2 h => Got.mv r U U' V V' h1 hal h2 h) ?_
  intro p e s m args below meth c s₁ X0 hexec hbytes hml hret hlk hnm hown hh0 W hP
  obtain ⟨rfl, hB, f1, f2, hA, s1, hz, l0, l2, hp⟩ := hP
  have c1 : Steps p.tables e below (s₁.setTop (entryFrame m #[.ref a, .ref b] 2)) (s₁.setTop (mkF m 0 #[.val (.ref a), .val (.ref b)] [])) := entry rfl
  have c2 : Steps p.tables e below (s₁.setTop (entryFrame m #[.ref a, .ref b] 2)) (s₁.setTop (mkF m 6 #[.val (.ref a), .val (.ref b)] [.null, .int (Int32.ofNat A.slots.size), .int 0, .ref b, .ref a])) := c1.trans (by
    refine XS.aloadN X0.here hexec rfl (hb hbytes d0) rfl rfl ?_
    refine XS.aloadN X0.here hexec rfl (hb hbytes d1) rfl rfl ?_
    refine iconstV X0.here hexec rfl 0 (hb hbytes d2) (by decide) ?_
    refine XS.aloadN X0.here hexec rfl (hb hbytes d3) rfl rfl ?_
    refine X0.alen hexec (hA.1.mv X0.warmed.alike hh0) rfl rfl (hb hbytes d4) ?_
    refine XS.aconstNull X0.here hexec rfl (hb hbytes d5) ?_
    exact Steps.refl _)
  obtain ⟨v3, T3, X3, E3, g3⟩ := X0.callN hexec (New4.law l a D fV fC b A z 0 A.slots.size) rfl hown (wks W (initW "java/lang/String" 27 New4.yN)) (W New4.tab (by simp only [site, List.mem_cons, List.mem_append, true_or, or_true])) (W := 0) (Nat.le_of_ble_eq_true rfl) (Nat.le_of_ble_eq_true rfl) (Nat.le_refl _) (by show 0 + A.slots.size ≤ A.slots.size; omega) (g := (mkF m 6 #[.val (.ref a), .val (.ref b)] [.null, .int (Int32.ofNat A.slots.size), .int (Int32.ofNat 0), .ref b, .ref a])) rfl (by rw [hml]; rfl) c2 (argsL := [.ref b, .int (Int32.ofNat 0), .int (Int32.ofNat A.slots.size), .null]) (rest := []) rfl rfl (by show 2 * 0 + 0 ≤ _; decide) (hb hbytes d6) (⟨rfl, hB.mv X0.warmed.alike hh0, f1.al X0.warmed.alike, f2.al X0.warmed.alike, hA.mv X0.warmed.alike hh0, s1.there X0.warmed.alike hh0, hz, l0, by omega, l2, fun i hi => by rw [Nat.zero_add]; exact hp i hi⟩)
  have e0 := Got.mv _ s₁ s _ _ hh0.symm (Vm.Alike.refl _) rfl E3
  obtain rfl := e0.1
  have c4 : Steps p.tables e below (s₁.setTop (entryFrame m #[.ref a, .ref b] 2)) (T3.setTop (mkF m 9 #[.val (.ref a), .val (.ref b)] [])) := g3
  exact ⟨T3, none, _, _, _, X3, by simp, rfl, by omega, (fun _ => rfl), e0, fun fs hl => c4.trans (X3.returnOut hexec hret (hb hbytes d9) hl)⟩
theorem pays {l : Launch} {R : Room} {p : Program} {e : Env} {below : List Frame} {s : State} {sargs : Array Value} {len W : Nat} (a : Addr) (D : Cell) (fV fC : Field) (b : Addr) (A : Cell) (z : Int32) (htab : tab.before sargs s = true) (hfr : 4 ≤ R.frames) (hlo : W + 65 ≤ R.locals) :
    Back l R p e below s sargs yN len W (fun A₁ a₁ => A₁.cells + 1 ≤ R.cells ∧ A₁.slots + A.slots.size ≤ R.slots ∧ P a D fV fC b A z a₁ A₁.U) (fun A₁ _ v₁ B₁ => E a D fV fC A v₁ A₁.U B₁.U ∧ B₁.locs = A₁.locs ++ [⟨a, fC.slot⟩, ⟨a, fV.slot⟩] ∧ B₁.cells = A₁.cells + 1 ∧ B₁.slots = A₁.slots + A.slots.size) :=
  (law l a D fV fC b A z).pays htab hfr (by omega)
end New1
/-- the byte, read back as charAt reads it, is the char -/
theorem lo8_mask {x : Int32} (h0 : ¬ x < 0) (h1 : ¬ 255 < x) : lo8 x &&& 255 = x := by
  have t : ∀ k : Fin 256, lo8 (Int32.ofNat k.val) &&& 255 = Int32.ofNat k.val := by decide +kernel
  rw [Int32.lt_iff_toInt_lt] at h0 h1
  have e0 : (0 : Int32).toInt = 0 := rfl
  have e1 : (255 : Int32).toInt = 255 := rfl
  obtain ⟨k, hk⟩ : ∃ k : Nat, x.toInt = k := ⟨x.toInt.toNat, by omega⟩
  have hx : x = Int32.ofNat k := Int32.toInt_inj.mp (by rw [hk, Int32.toInt_ofNat_small (by omega)])
  rw [hx]
  exact t ⟨k, by omega⟩
end StrChars
namespace StrChars.Road
open Jvm Sem ClassFile Op Lib Jvm.Stand Jvm.Free Jvm.Free.XT
open Jvm.Lib.Cold (StaticIs)
abbrev ST : String := "java/lang/String"
/-- every table word that New1's law asks, flat -/
abbrev words : List Jvm.Cond := [.code New1.yN New1.yB 2 none, .initialized ST, .methodLink ST 27 New4.yN, .instanceMethod New4.yN,
  .code New4.yN New4.yB 6 none, .fieldLink ST 38 ST "COMPACT_STRINGS" "Z", .laysFinal ST ST "value" "[B", .fieldLink ST 9 ST "value" "[B", .laysFinal ST ST "coder" "B", .fieldLink ST 15 ST "coder" "B",
  .methodLink ST 1 Lib.objectInit, .instanceMethod Lib.objectInit, .code Lib.objectInit ⟨#[0xb1]⟩ 1 none, .methodLink ST 177 Cmp3.yN, .static Cmp3.yN, .methodLink ST 47 CodL.yN, .static CodL.yN,
  .code Cmp3.yN Cmp3.yB 6 (some (.array .byte)), .initialized U16, .arrayClass .byte, .methodLink U16 115 Cmp5.yN, .static Cmp5.yN, .code Cmp5.yN Cmp5.yB 7 (some .int), .code CodL.yN CodL.yB 2 (some .byte)]
theorem tab_of {a : Array Value} {s : State} (h : ∀ w ∈ words, w.before a s = true) : New1.tab.before a s = true := by
  have h5 : Cmp5.tab.before a s = true := unparts (wk h (.code Cmp5.yN Cmp5.yB 7 (some .int))) (wks h (.initialized Cmp5.yN.cls :: Cmp5.site))
  have hc : CodL.tab.before a s = true := unparts (wk h (.code CodL.yN CodL.yB 2 (some .byte))) (wks h (.initialized CodL.yN.cls :: CodL.site))
  have q5 : ∀ w ∈ Cmp5.tab :: words, w.before a s = true := fun w hw => (List.mem_cons.mp hw).elim (fun e => e ▸ h5) (h w)
  have h3 : Cmp3.tab.before a s = true := unparts (wk q5 (.code Cmp3.yN Cmp3.yB 6 (some (.array .byte)))) (wks q5 (.initialized Cmp3.yN.cls :: Cmp3.site))
  have q3 : ∀ w ∈ Cmp3.tab :: CodL.tab :: words, w.before a s = true := fun w hw => (List.mem_cons.mp hw).elim (fun e => e ▸ h3) fun hw => (List.mem_cons.mp hw).elim (fun e => e ▸ hc) (h w)
  have h4 : New4.tab.before a s = true := unparts (wk q3 (.code New4.yN New4.yB 6 none)) (wks q3 (.initialized New4.yN.cls :: New4.site))
  have q4 : ∀ w ∈ New4.tab :: words, w.before a s = true := fun w hw => (List.mem_cons.mp hw).elim (fun e => e ▸ h4) (h w)
  exact unparts (wk q4 (.code New1.yN New1.yB 2 none)) (wks q4 (.initialized New1.yN.cls :: New1.site))
/-- the words ride from the start Z to the walk's own state -/
theorem moved {Z s : State} {a0 args : Array Value} (hZ : Z.Warmed39 s.vm) (hw : ∀ d ∈ words, d.before a0 Z = true) : ∀ d ∈ words, d.before args s = true := fun d hd => by
  have q := hw d hd
  have t : ∀ d ∈ words, d = .arrayClass .byte ∨ (d.onTables && d.keepsFace) = true := by decide +kernel
  rcases t d hd with rfl | t
  · exact RoadKit.mvA hZ q
  · exact RoadKit.mv hZ q t
/-- WHAT COMES BACK, over the tables of the start Z: h the heap at the call, h' behind it -/
def Q (Z : State) (x : Addr) (A : Cell) (h : Heap) (v : Option Value) (h' : Heap) (L : List Loc) : Prop := v = none ∧ (∀ y ∈ L, y.base = x) ∧ RoadKit.Keep h h' [x] ∧ h'.size = h.size + 1 ∧ RoadKit.Exa Z h' x ST ∧ RoadKit.Fld Z h' x ST "value" "[B" (.ref h.size) ∧ RoadKit.Fld Z h' x ST "coder" "B" (.int 0) ∧
  (∃ V : Cell, RoadKit.Arr Z h' h.size V .byte ∧ V.vm = .none ∧ Z.vm.findClass "[B" = some V.cls ∧ V.slots.size = A.slots.size ∧ ∀ j, j < A.slots.size → V.slots[j]? = some (.int (lo8 (cv A j)))) ∧
  ∀ (O n d : String) (w : Value), RoadKit.Fld Z h x O n d w → RoadKit.slotOf Z O n d ≠ RoadKit.slotOf Z ST "value" "[B" → RoadKit.slotOf Z O n d ≠ RoadKit.slotOf Z ST "coder" "B" → RoadKit.Fld Z h' x O n d w
/-- **new String(chars) AT A CALL, IN THE ROAD'S FORM**: for specialBack behind newO: x the fresh String, b the char[] with the cell A -/
theorem back {p : Program} {l : Launch} {e : Env} {R : Room} {s : State} {args : Array Value} {below : List Frame} {len W : Nat} {Z : State} {a0 : Array Value} {h : Heap} (hZ : Z.Warmed39 s.vm) (hw : ∀ d ∈ words, d.before a0 Z = true) {kI : Nat} (wi : (Jvm.Cond.instantiable ST kI).before a0 Z = true)
    {x b : Addr} {A : Cell} {z : Int32} {v0 c0 : Value} (E : RoadKit.Exa Z h x ST) (V : RoadKit.Fld Z h x ST "value" "[B" v0) (C : RoadKit.Fld Z h x ST "coder" "B" c0) (K : RoadKit.Arr Z h b A .char) (hty : Typed .char A) (S : RoadKit.Sta Z h ST "COMPACT_STRINGS" "Z" (.int z)) (hz : ¬ z = 0)
    (l0 : 0 < A.slots.size) (l2 : A.slots.size ≤ 536870912) (hp : ∀ i, i < A.slots.size → ¬ 255 < cv A i) (hfr : 4 ≤ R.frames) (hlo : W + 65 ≤ R.locals) :
    Back l R p e below s args New1.yN len W (fun P a => a = #[.ref x, .ref b] ∧ P.U.heap = h ∧ P.cells + 1 ≤ R.cells ∧ P.slots + A.slots.size ≤ R.slots)
      (fun P _ v B => ∃ L, Q Z x A h v B.U.heap L ∧ B.locs = P.locs ++ L ∧ B.cells = P.cells + 1 ∧ B.slots = P.slots + A.slots.size) := by
  intro m meth c P g ig mk a X hg hsize hdg hW hn hp'
  obtain ⟨rfl, rfl, r1, r2⟩ := hp'
  have al : Z.vm.Alike P.U.vm := hZ.alike.trans X.warmed.alike
  obtain ⟨D, cfV, kV, iV, fV, hD, gV, stV, knV, obV, asV, slV⟩ := id V
  obtain ⟨D', cfC, kC, iC, fC, hD', gC, stC, -, -, asC, slC⟩ := id C
  cases hD.symm.trans hD'
  obtain ⟨D2, kD, e1, e2, e3, e4, e5⟩ := id E
  cases hD.symm.trans e1
  obtain ⟨c2, k2, i1, i2, i3, -⟩ := Cond.instantiable_spec wi
  cases e2.symm.trans i1
  cases e3.symm.trans i2
  obtain ⟨kU, u1, u2⟩ := al.2.2 _ _ e3
  have hB : Blank ST x D P.U := ⟨hD, ⟨knV, fun q hq => by rw [hq] at obV; cases obV⟩, by rw [al.findClass]; exact e2, kU, u1, by rw [u2]; exact i3, by rw [u2]; exact e5 i3⟩
  have F1 : Found ST "value" "[B" fV P.U := ⟨SBG.found_only al ⟨cfV, kV, iV, gV⟩, stV⟩
  have F2 : Found ST "coder" "B" fC P.U := ⟨SBG.found_only al ⟨cfC, kC, iC, gC⟩, stC⟩
  have hA : Ch b A P.U := ⟨⟨K.1, State.isArrayOf_alike al K.2.1, K.2.2, by omega⟩, hty⟩
  have hS : StaticIs P.U ST "COMPACT_STRINGS" "Z" (.int z) := by
    obtain ⟨cfS, iS, kS, fS, st, cS, t1, t2, t3, t4, t5, t6, t7⟩ := S
    exact StaticIs.there (s := { Z with heap := P.U.heap }) ⟨cfS, iS, kS, fS, st, cS, t1, t2, t3, t4, t5, (fun q => by rw [q] at t6; cases t6), t7⟩ al rfl
  obtain ⟨v, B, X', ⟨⟨hv, E', V', q1, q2, q3, q4, q5, q6, q7, q8, q9, q10, q11⟩, hl, hc, hs⟩, st⟩ := New1.pays x D fV fC b A z (tab_of (moved hZ hw)) hfr hlo m meth c P g ig mk _ X hg hsize hdg hW hn ⟨r1, r2, rfl, hB, F1, F2, hA, hS, hz, l0, l2, hp⟩
  have al' : Z.vm.Alike B.U.vm := hZ.alike.trans X'.warmed.alike
  have hsz : E'.slots.size = D.slots.size := by
    obtain ⟨-, -, -, kB, w1, w2, w3⟩ := q1
    obtain ⟨kB', y1, y2⟩ := al'.2.2 _ _ e3
    rw [q2.2.1] at w1
    cases w1.symm.trans y1
    rw [w3, e5 i3, y2]
  refine ⟨v, B, X', ⟨_, ⟨hv, ?_, ⟨by omega, fun y cy hy hn' => q10 y cy (by simpa using hn') hy, fun y cy hy => ?_⟩, q11, ⟨E', _, q1.1, by rw [q2.2.1]; exact e2, by rw [q2.2.1]; exact e3, by rw [q2.1]; exact obV, fun _ => by rw [hsz]; exact e5 i3⟩,
    ⟨E', cfV, kV, iV, fV, q1.1, gV, stV, by rw [q2.1]; exact knV, by rw [q2.1]; exact obV, by rw [q2.2.1]; exact asV, q3⟩, ⟨E', cfC, kC, iC, fC, q1.1, gC, stC, by rw [q2.1]; exact knV, by rw [q2.1]; exact obV, by rw [q2.2.1]; exact asC, q4⟩,
    ⟨V', ⟨q5.1, State.isArrayOf_alike al'.symm q5.2.1, q5.2.2.1⟩, q6, by rw [← al'.findClass]; exact q7, q8, fun j hj => by have := q9 j hj; rwa [Nat.zero_add] at this⟩, fun O n d w F n1 n2 => ?_⟩, hl, hc, hs⟩, st⟩
  · intro y hy
    simp only [List.mem_cons, List.not_mem_nil, or_false] at hy
    rcases hy with rfl | rfl <;> rfl
  · by_cases q : y = x
    · subst q
      cases hD.symm.trans hy
      exact ⟨E', q1.1, q2.2.1, q2.1, hsz⟩
    · exact ⟨cy, q10 y cy q hy, rfl, rfl, rfl⟩
  · obtain ⟨D3, cf, k, i, f, g1, g2, g3, g4, g5, g6, g7⟩ := F
    cases hD.symm.trans g1
    simp only [RoadKit.slotOf, g2, gV, gC, Option.map_some, Option.getD_some] at n1 n2
    exact ⟨E', cf, k, i, f, q1.1, g2, g3, by rw [q2.1]; exact g4, by rw [q2.1]; exact g5, by rw [q2.2.1]; exact g6, by rw [q2.2.2 f.slot (by simp [n1, n2])]; exact g7⟩
end StrChars.Road
namespace StrChars.Road
open Jvm Sem ClassFile Op Lib Jvm.Stand Jvm.Free Jvm.Free.XT
/-- WHAT COMES BACK, the byte[] as a list of values -/
def QA (Z : State) (x : Addr) (zn : Int32) (cs : List Int32) (h : Heap) (v : Option Value) (h' : Heap) (L : List Loc) : Prop := v = none ∧ (∀ y ∈ L, y.base = x) ∧ RoadKit.Keep h h' [x] ∧ h'.size = h.size + 1 ∧ RoadKit.Exa Z h' x ST ∧ RoadKit.Fld Z h' x ST "value" "[B" (.ref h.size) ∧ RoadKit.Fld Z h' x ST "coder" "B" (.int 0) ∧
  (∃ kb, Z.vm.findClass "[B" = some kb ∧ RoadKit.Arv Z h' h.size kb .byte zn (cs.map fun c => .int (lo8 c)) (.int 0)) ∧
  ∀ (O n d : String) (w : Value), RoadKit.Fld Z h x O n d w → RoadKit.slotOf Z O n d ≠ RoadKit.slotOf Z ST "value" "[B" → RoadKit.slotOf Z O n d ≠ RoadKit.slotOf Z ST "coder" "B" → RoadKit.Fld Z h' x O n d w
/-- **new String(chars) AT A CALL, THE ARRAYS AS LISTS**: the char[] at b holds cs, not empty, no char above 255 -/
theorem backArv {p : Program} {l : Launch} {e : Env} {R : Room} {s : State} {args : Array Value} {below : List Frame} {len W : Nat} {Z : State} {a0 : Array Value} {h : Heap} (hZ : Z.Warmed39 s.vm) (hw : ∀ d ∈ words, d.before a0 Z = true) {kI : Nat} (wi : (Jvm.Cond.instantiable ST kI).before a0 Z = true)
    {x b : Addr} {k : ClassId} {zn z : Int32} {cs : List Int32} {dv v0 c0 : Value} (E : RoadKit.Exa Z h x ST) (V : RoadKit.Fld Z h x ST "value" "[B" v0) (C : RoadKit.Fld Z h x ST "coder" "B" c0) (K : RoadKit.Arv Z h b k .char zn (cs.map Value.int) dv) (S : RoadKit.Sta Z h ST "COMPACT_STRINGS" "Z" (.int z)) (hz : ¬ z = 0)
    (hlen : zn.toNatClampNeg = cs.length) (h0 : 0 < cs.length) (hbig : cs.length ≤ 536870912) (hall : ∀ c ∈ cs, ¬ 255 < c) (hfr : 4 ≤ R.frames) (hlo : W + 65 ≤ R.locals) :
    Back l R p e below s args New1.yN len W (fun P a => a = #[.ref x, .ref b] ∧ P.U.heap = h ∧ P.cells + 1 ≤ R.cells ∧ P.slots + cs.length ≤ R.slots)
      (fun P _ v B => ∃ L, QA Z x zn cs h v B.U.heap L ∧ B.locs = P.locs ++ L ∧ B.cells = P.cells + 1 ∧ B.slots = P.slots + cs.length) := by
  obtain ⟨A, K1, K2, K3, K4, K5, K6⟩ := K
  have e : A.slots.size = cs.length := K3.trans hlen
  have hat : ∀ (i : Nat) (hi : i < cs.length), A.slots[i]? = some (.int cs[i]) := fun i hi => by rw [K5 i (by omega)]; simp [List.getD_eq_getElem?_getD, hi]
  have hcv : ∀ (i : Nat) (hi : i < cs.length), cv A i = cs[i] := fun i hi => by unfold cv; rw [hat i hi]
  have hty : Typed .char A := fun i v hv => by
    have hi : i < A.slots.size := (Array.getElem?_eq_some_iff.mp hv).1
    have q := K5 i hi
    rw [hv] at q
    rw [Option.some.inj q]
    exact K6 i hi
  refine Back.mono (back hZ hw wi E V C K1 hty S hz (by omega) (by omega) (fun i hi => by rw [hcv i (by omega)]; exact hall _ (List.getElem_mem _)) hfr hlo) (fun P a hp => ⟨hp.1, hp.2.1, hp.2.2.1, by rw [e]; exact hp.2.2.2⟩) (fun P a v B hp hq => ?_)
  obtain ⟨L, ⟨q1, q2, q3, q4, q5, q6, q7, ⟨V', v1, v2, v3, v4, v5⟩, q9⟩, hl, hc, hs⟩ := hq
  refine ⟨L, ⟨q1, q2, q3, q4, q5, q6, q7, ⟨V'.cls, v3, V', v1, rfl, by rw [v4, e, hlen], K4, fun i hi => ?_, fun i hi => ?_⟩, q9⟩, hl, hc, by rw [hs, e]⟩
  · have hi' : i < cs.length := by omega
    rw [v5 i (by omega), hcv i hi']; simp [List.getD_eq_getElem?_getD, hi']
  · have hi' : i < cs.length := by omega
    simp only [List.getD_eq_getElem?_getD, List.getElem?_map, List.getElem?_eq_getElem hi', Option.map_some, Option.getD_some]
    exact fits_lo8 _
end StrChars.Road
namespace StrChars.Road
open Jvm Sem ClassFile Op Lib Jvm.Stand Jvm.Free Jvm.Free.XT
/-- WHAT COMES BACK, in the writer's own shape -/
def QV (Z : State) (x : Addr) (N : Int32) (bs : List Int32) (h : Heap) (n0 : Nat) (v : Option Value) (h' : Heap) (L : List Loc) : Prop := v = none ∧ RoadKit.Fr n0 L ∧ RoadKit.Keep h h' [x] ∧ RoadKit.Exa Z h' x ST ∧ RoadKit.Fld Z h' x ST "coder" "B" (.int 0) ∧
  ∃ (t : Addr) (kb : ClassId), n0 ≤ t ∧ h.size ≤ t ∧ ¬ t = x ∧ RoadKit.Fld Z h' x ST "value" "[B" (.ref t) ∧ RoadKit.Arv Z h' t kb .byte N (bs.map Value.int) (.int 0)
/-- **new String(chars) AT A CALL, FOR THE WRITER**: a char[] of n known ints, each 0 to 255 -/
theorem backV {p : Program} {l : Launch} {e : Env} {R : Room} {s : State} {args : Array Value} {below : List Frame} {len W : Nat} {Z : State} {a0 : Array Value} {h : Heap} (hZ : Z.Warmed39 s.vm) (hw : ∀ d ∈ words, d.before a0 Z = true) {kI : Nat} (wi : (Jvm.Cond.instantiable ST kI).before a0 Z = true)
    {x b : Addr} {kC : ClassId} {cs bs : List Int32} {d v0 c0 : Value} {z N : Int32} {n n0 : Nat} (hx0 : n0 ≤ x) (hh0 : n0 ≤ h.size) (E : RoadKit.Exa Z h x ST) (V : RoadKit.Fld Z h x ST "value" "[B" v0) (C : RoadKit.Fld Z h x ST "coder" "B" c0) (K : RoadKit.Arv Z h b kC .char N (cs.map Value.int) d) (S : RoadKit.Sta Z h ST "COMPACT_STRINGS" "Z" (.int z)) (hz : ¬ z = 0)
    (hn : cs.length = n) (hN : N = Int32.ofNat n) (l0 : 0 < n) (l2 : n ≤ 4000) (hp : ∀ c ∈ cs, ¬ c < 0 ∧ ¬ (255 : Int32) < c) (hb : bs = cs.map (fun c => c.toInt8.toInt32)) (hfr : 4 ≤ R.frames) (hlo : W + 65 ≤ R.locals) :
    Back l R p e below s args (⟨"java/lang/String", "<init>", "([C)V"⟩ : MethodName) len W (fun P a => a = #[.ref x, .ref b] ∧ P.U.heap = h ∧ P.cells + 1 ≤ R.cells ∧ P.slots + n ≤ R.slots)
      (fun P _ v B => ∃ L, QV Z x N bs h n0 v B.U.heap L ∧ B.locs = P.locs ++ L ∧ B.cells = P.cells + 1 ∧ B.slots = P.slots + n) := by
  subst hn hN hb
  refine Back.mono (backArv hZ hw wi E V C K S hz (n32 (by omega)) l0 (by omega) (fun c hc => (hp c hc).2) hfr hlo) (fun P a hp => hp) (fun P a v B hp hq => ?_)
  obtain ⟨L, ⟨q1, q2, q3, q4, q5, q6, q7, ⟨kb, v1, v2⟩, q9⟩, hl, hc, hs⟩ := hq
  exact ⟨L, ⟨q1, fun y hy => by rw [q2 y hy]; exact hx0, q3, q5, q7, h.size, kb, hh0, Nat.le_refl _, Nat.ne_of_gt E.lt, q6, by rw [List.map_map]; exact v2⟩, hl, hc, hs⟩
end StrChars.Road
namespace StrChars
open Jvm Sem ClassFile Op Lib Jvm.Stand Jvm.Free.XT Jvm.Free.ALB Jvm.Free.JM Jvm.Free
open Jvm.Lib.Cold (StaticIs)
def hi8 (x : Int32) : Int32 := lo8 (x >>> ((8 : Int32) &&& 31))
/-- what StringUTF16.getChar makes of two bytes -/
def pairCh (u v : Int32) : Int32 := (((u &&& 255) <<< ((0 : Int32) &&& 31)) ||| ((v &&& 255) <<< ((8 : Int32) &&& 31))).toUInt32.toUInt16.toUInt32.toInt32
theorem lo8_and (x : Int32) : (lo8 x &&& 255).toBitVec.toNat = x.toBitVec.toNat % 256 := by
  have h : (lo8 x).toBitVec = (x.toBitVec.signExtend 8).signExtend 32 := by rw [lo8, Int8.toBitVec_toInt32, Int32.toBitVec_toInt8]
  rw [Int32.toBitVec_and, BitVec.toNat_and, h]
  have e : ((x.toBitVec.signExtend 8).signExtend 32).toNat % 256 = x.toBitVec.toNat % 256 := by
    rw [BitVec.toNat_signExtend]
    have hlt := x.toBitVec.isLt
    simp only [BitVec.toNat_setWidth, BitVec.toNat_signExtend]
    split <;> split <;> omega
  rw [← e]
  exact Nat.and_two_pow_sub_one_eq_mod _ 8
theorem pair_says {c : Int32} (h0 : ¬ c < 0) (h1 : ¬ 65535 < c) : pairCh (lo8 c) (hi8 c) = c := by
  rw [Int32.lt_iff_toInt_lt] at h0 h1
  have e0 : (0 : Int32).toInt = 0 := rfl
  have e1 : (65535 : Int32).toInt = 65535 := rfl
  have hc : c.toInt = c.toBitVec.toNat := by
    have := c.toBitVec.isLt
    have e : c.toInt = c.toBitVec.toInt := rfl
    rw [e] at h0 h1
    rw [e]
    rw [BitVec.toInt_eq_toNat_cond] at h0 h1 ⊢
    split at h0 <;> split <;> omega
  have hn : c.toBitVec.toNat < 65536 := by omega
  have a1 := lo8_and c
  have a2 : (hi8 c &&& 255).toBitVec.toNat = c.toBitVec.toNat / 256 := by
    rw [hi8, lo8_and]
    have e : ((8 : Int32) &&& 31) = 8 := by decide
    rw [e, Int32.toBitVec_shiftRight]
    have e2 : ((8 : Int32).toBitVec.smod 32) = 8#32 := by decide
    rw [e2, BitVec.sshiftRight_eq', BitVec.toNat_sshiftRight_of_msb_false (by rw [BitVec.msb_eq_false_iff_two_mul_lt]; omega)]
    show c.toBitVec.toNat >>> 8 % 256 = _
    rw [Nat.shiftRight_eq_div_pow]
    omega
  unfold pairCh
  apply Int32.toBitVec_inj.mp
  apply BitVec.eq_of_toNat_eq
  have f0 : ((0 : Int32) &&& 31) = 0 := by decide
  have f8 : ((8 : Int32) &&& 31) = 8 := by decide
  rw [f0, f8]
  have g : (((lo8 c &&& 255) <<< (0 : Int32)) ||| ((hi8 c &&& 255) <<< (8 : Int32))).toBitVec.toNat = c.toBitVec.toNat := by
    rw [Int32.toBitVec_or, Int32.toBitVec_shiftLeft, Int32.toBitVec_shiftLeft]
    have s0 : ((0 : Int32).toBitVec.smod 32) = 0#32 := by decide
    have s8 : ((8 : Int32).toBitVec.smod 32) = 8#32 := by decide
    rw [s0, s8, BitVec.toNat_or]
    simp only [BitVec.shiftLeft_eq', BitVec.toNat_shiftLeft, a1, a2]
    show (c.toBitVec.toNat % 256) <<< 0 % 2 ^ 32 ||| (c.toBitVec.toNat / 256) <<< 8 % 2 ^ 32 = _
    rw [Nat.shiftLeft_zero, Nat.mod_eq_of_lt (show c.toBitVec.toNat % 256 < 2 ^ 32 by omega), Nat.mod_eq_of_lt (show (c.toBitVec.toNat / 256) <<< 8 < 2 ^ 32 by rw [Nat.shiftLeft_eq]; omega), Nat.or_comm, ← Nat.shiftLeft_add_eq_or_of_lt (by omega), Nat.shiftLeft_eq]
    omega
  show BitVec.toNat (((((lo8 c &&& 255) <<< (0 : Int32)) ||| ((hi8 c &&& 255) <<< (8 : Int32))).toBitVec.setWidth 16).setWidth 32) = _
  rw [BitVec.toNat_setWidth, BitVec.toNat_setWidth, g]
  omega
end StrChars
namespace StrChars
open Jvm Sem ClassFile Op Lib Jvm.Stand Jvm.Free.XT Jvm.Free.ALB Jvm.Free.JM Jvm.Free
open Jvm.Lib.Cold (StaticIs)
/-- the array's cell V codes the n chars f 0 .. f (n - 1) by the coder cd, as the JDK does: coder 1 just where some char is above 255 -/
def Cod (cd : Int32) (n : Nat) (f : Nat → Int32) (V : Cell) : Prop := (cd = 0 ∧ V.slots.size = n ∧ ∀ j, j < n → V.slots[j]? = some (.int (lo8 (f j))) ∧ ¬ 255 < f j) ∨ (cd = 1 ∧ V.slots.size = 2 * n ∧ (∀ j, j < n → V.slots[2 * j]? = some (.int (lo8 (f j))) ∧ V.slots[2 * j + 1]? = some (.int (hi8 (f j)))) ∧ ∃ j, j < n ∧ 255 < f j)
/-- **x is a String of the n chars f 0 .. f (n - 1)**, Latin-1 or UTF-16; its array at t has the cell V -/
def Txt (x t : Addr) (V : Cell) (cd : Int32) (n : Nat) (f : Nat → Int32) (U : State) : Prop := Exact "java/lang/String" x U ∧ Has x "java/lang/String" "value" "[B" (.ref t) U ∧ Has x "java/lang/String" "coder" "B" (.int cd) U ∧ XT.Arr .byte t V U ∧ Cod cd n f V ∧ ∀ j, j < n → ¬ f j < 0 ∧ ¬ 65535 < f j
theorem Txt.mv {x t : Addr} {V : Cell} {cd : Int32} {n : Nat} {f : Nat → Int32} {U U' : State} (h : Txt x t V cd n f U) (hal : U.vm.Alike U'.vm) (hh : U'.heap = U.heap) : Txt x t V cd n f U' := ⟨h.1.mv hal hh, h.2.1.mv hal hh, h.2.2.1.mv hal hh, h.2.2.2.1.mv hal hh, h.2.2.2.2⟩
end StrChars
namespace StrChars.Road
open Jvm Sem ClassFile Op Lib Jvm.Stand Jvm.Free Jvm.Free.XT
open Jvm.Lib.Cold (StaticIs)
theorem consq {a : Array Value} {s : State} {c : Jvm.Cond} {L : List Jvm.Cond} (h0 : c.before a s = true) (h : ∀ w ∈ L, w.before a s = true) : ∀ w ∈ c :: L, w.before a s = true := fun w hw => (List.mem_cons.mp hw).elim (fun e => e ▸ h0) (h w)
/-- the bytes of the chars cs, low before high -/
def wideBytes : List Int32 → List Value
  | [] => []
  | c :: cs => .int (lo8 c) :: .int (hi8 c) :: wideBytes cs
theorem wide_lo (d : Value) : ∀ (cs : List Int32) (j : Nat), j < cs.length → (wideBytes cs).getD (2 * j) d = .int (lo8 (cs.getD j 0))
  | [], j, h => absurd h (Nat.not_lt_zero j)
  | c :: cs, 0, _ => rfl
  | c :: cs, j + 1, h => by
    have q := wide_lo d cs j (by simpa using h)
    rw [show 2 * (j + 1) = 2 * j + 1 + 1 from by omega]
    simpa [wideBytes] using q
theorem wide_hi (d : Value) : ∀ (cs : List Int32) (j : Nat), j < cs.length → (wideBytes cs).getD (2 * j + 1) d = .int (hi8 (cs.getD j 0))
  | [], j, h => absurd h (Nat.not_lt_zero j)
  | c :: cs, 0, _ => rfl
  | c :: cs, j + 1, h => by
    have q := wide_hi d cs j (by simpa using h)
    rw [show 2 * (j + 1) + 1 = 2 * j + 1 + 1 + 1 from by omega]
    simpa [wideBytes] using q
theorem low_at (d : Value) (cs : List Int32) (j : Nat) (h : j < cs.length) : (cs.map fun c => Value.int (lo8 c)).getD j d = .int (lo8 (cs.getD j 0)) := by
  simp [List.getD_eq_getElem?_getD, h]
/-- an array of N2 bytes vs codes the chars cs by the coder cd -/
def CodA (cs : List Int32) (cd N2 : Int32) (vs : List Value) : Prop := (cd = 0 ∧ N2 = Int32.ofNat cs.length ∧ vs = (cs.map fun c => Value.int (lo8 c)) ∧ ∀ c ∈ cs, ¬ 255 < c) ∨ (cd = 1 ∧ N2 = Int32.ofNat (2 * cs.length) ∧ vs = wideBytes cs ∧ ∃ c ∈ cs, 255 < c)
theorem CodA.cod {cs : List Int32} {cd N2 : Int32} {vs : List Value} {V : Cell} (h : CodA cs cd N2 vs) (hn : 2 * cs.length < 2 ^ 31) (hs : V.slots.size = N2.toNatClampNeg) (hv : RoadKit.Has V vs (.int 0)) : Cod cd cs.length (fun j => cs.getD j 0) V := by
  rcases h with ⟨rfl, rfl, rfl, h⟩ | ⟨rfl, rfl, rfl, c, hc, hw⟩
  · rw [n32 (by omega)] at hs
    exact Or.inl ⟨rfl, hs, fun j hj => ⟨by rw [hv j (by omega), low_at _ _ _ hj], by
      have e : cs.getD j 0 = cs[j] := by simp [List.getD_eq_getElem?_getD, hj]
      show ¬ 255 < cs.getD j 0
      rw [e]; exact h _ (List.getElem_mem _)⟩⟩
  · rw [n32 (by omega)] at hs
    obtain ⟨j, hj, rfl⟩ := List.getElem_of_mem hc
    exact Or.inr ⟨rfl, hs, fun j hj => ⟨by rw [hv _ (by omega), wide_lo _ _ _ hj], by rw [hv _ (by omega), wide_hi _ _ _ hj]⟩, j, hj, by
      have e : cs.getD j 0 = cs[j] := by simp [List.getD_eq_getElem?_getD, hj]
      show 255 < cs.getD j 0
      rw [e]; exact hw⟩
/-- an object of exactly java/lang/String, its two fields found: as the laws ask it -/
theorem strObj {Z U : State} {a0 : Array Value} {kI : Nat} (wi : (Jvm.Cond.instantiable ST kI).before a0 Z = true) (al : Z.vm.Alike U.vm) {x : Addr} {v0 c0 : Value} (E : RoadKit.Exa Z U.heap x ST) (V : RoadKit.Fld Z U.heap x ST "value" "[B" v0) (C : RoadKit.Fld Z U.heap x ST "coder" "B" c0) :
    ∃ (D : Cell) (fV fC : Field), Blank ST x D U ∧ Found ST "value" "[B" fV U ∧ Found ST "coder" "B" fC U ∧ D.slots[fV.slot]? = some v0 ∧ D.slots[fC.slot]? = some c0 ∧ RoadKit.slotOf Z ST "value" "[B" = fV.slot ∧ RoadKit.slotOf Z ST "coder" "B" = fC.slot := by
  obtain ⟨D, cfV, kV, iV, fV, hD, gV, stV, knV, obV, asV, slV⟩ := V
  obtain ⟨D', cfC, kC, iC, fC, hD', gC, stC, -, -, asC, slC⟩ := C
  cases hD.symm.trans hD'
  obtain ⟨D2, kD, e1, e2, e3, e4, e5⟩ := E
  cases hD.symm.trans e1
  obtain ⟨c2, k2, i1, i2, i3, -⟩ := Cond.instantiable_spec wi
  cases e2.symm.trans i1
  cases e3.symm.trans i2
  obtain ⟨kU, u1, u2⟩ := al.2.2 _ _ e3
  exact ⟨D, fV, fC, ⟨hD, ⟨knV, fun q hq => by rw [hq] at obV; cases obV⟩, by rw [al.findClass]; exact e2, kU, u1, by rw [u2]; exact i3, by rw [u2]; exact e5 i3⟩, ⟨SBG.found_only al ⟨cfV, kV, iV, gV⟩, stV⟩, ⟨SBG.found_only al ⟨cfC, kC, iC, gC⟩, stC⟩, slV, slC, by simp [RoadKit.slotOf, gV], by simp [RoadKit.slotOf, gC]⟩
theorem sta_is {Z U : State} (al : Z.vm.Alike U.vm) {C n d : String} {v : Value} (S : RoadKit.Sta Z U.heap C n d v) : StaticIs U C n d v := by
  obtain ⟨cfS, iS, kS, fS, st, cS, t1, t2, t3, t4, t5, t6, t7⟩ := S
  exact StaticIs.there (s := { Z with heap := U.heap }) ⟨cfS, iS, kS, fS, st, cS, t1, t2, t3, t4, t5, (fun q => by rw [q] at t6; cases t6), t7⟩ al rfl
end StrChars.Road
namespace StrChars
open Jvm Sem ClassFile Op Lib Jvm.Stand Jvm.Free.XT Jvm.Free.ALB Jvm.Free.JM Jvm.Free
open Jvm.Lib.Cold (StaticIs)
/-- what place i of a byte[]'s cell holds -/
def yv (A : Cell) (i : Nat) : Int32 := match A.slots[i]? with | some (.int x) => x | _ => 0
theorem yv_get {a : Addr} {A : Cell} {U : State} (h : XT.Arr .byte a A U) (ht : Typed .byte A) {i : Nat} (hi : i < A.slots.size) : A.slots[i]? = some (.int (yv A i)) := by
  have e := Array.getElem?_eq_getElem hi
  have f := ht i _ e
  unfold yv; rw [e]
  generalize A.slots[i] = v at f
  cases v <;> simp [fits] at f ⊢
/-- the two arrays are equal, place for place -/
def EqC (A B : Cell) : Prop := A.slots.size = B.slots.size ∧ ∀ i, i < A.slots.size → yv A i = yv B i
/-- a boolean that says whether p -/
def Says01 (q : Prop) (r : Option Value) (s u : State) : Prop := ∃ v : Int32, r = some (.int v) ∧ u.heap = s.heap ∧ ((v = 1 ∧ q) ∨ (v = 0 ∧ ¬ q))
theorem Says01.mv {q : Prop} : ∀ r (U U' V V' : State), U'.heap = U.heap → V.vm.Alike V'.vm → V'.heap = V.heap → Says01 q r U V → Says01 q r U' V' :=
  fun r U U' V V' h1 _ h2 ⟨v, a, b, c⟩ => ⟨v, a, by rw [h1, h2]; exact b, c⟩
namespace LEq
def yN : MethodName := ⟨"java/lang/StringLatin1", "equals", "([B[B)Z"⟩
abbrev yB : ByteArray := jdk_43_method_13_code
theorem d0 : decode yB 0 = .ok (.aload_n 0, 1) := by decide +kernel
theorem d1 : decode yB 1 = .ok (.arraylength, 1) := by decide +kernel
theorem d2 : decode yB 2 = .ok (.aload_n 1, 1) := by decide +kernel
theorem d3 : decode yB 3 = .ok (.arraylength, 1) := by decide +kernel
theorem d4 : decode yB 4 = .ok (.if_icmp (.ne) 30, 3) := by decide +kernel
theorem d7 : decode yB 7 = .ok (.iconst 0, 1) := by decide +kernel
theorem d8 : decode yB 8 = .ok (.istore_n 2, 1) := by decide +kernel
theorem d9 : decode yB 9 = .ok (.iload_n 2, 1) := by decide +kernel
theorem d10 : decode yB 10 = .ok (.aload_n 0, 1) := by decide +kernel
theorem d11 : decode yB 11 = .ok (.arraylength, 1) := by decide +kernel
theorem d12 : decode yB 12 = .ok (.if_icmp (.ge) 20, 3) := by decide +kernel
theorem d15 : decode yB 15 = .ok (.aload_n 0, 1) := by decide +kernel
theorem d16 : decode yB 16 = .ok (.iload_n 2, 1) := by decide +kernel
theorem d17 : decode yB 17 = .ok (.baload, 1) := by decide +kernel
theorem d18 : decode yB 18 = .ok (.aload_n 1, 1) := by decide +kernel
theorem d19 : decode yB 19 = .ok (.iload_n 2, 1) := by decide +kernel
theorem d20 : decode yB 20 = .ok (.baload, 1) := by decide +kernel
theorem d21 : decode yB 21 = .ok (.if_icmp (.eq) 5, 3) := by decide +kernel
theorem d24 : decode yB 24 = .ok (.iconst 0, 1) := by decide +kernel
theorem d25 : decode yB 25 = .ok (.ireturn, 1) := by decide +kernel
theorem d26 : decode yB 26 = .ok (.iinc 2 1, 3) := by decide +kernel
theorem d29 : decode yB 29 = .ok (.goto (-20), 3) := by decide +kernel
theorem d32 : decode yB 32 = .ok (.iconst 1, 1) := by decide +kernel
theorem d33 : decode yB 33 = .ok (.ireturn, 1) := by decide +kernel
theorem d34 : decode yB 34 = .ok (.iconst 0, 1) := by decide +kernel
theorem d35 : decode yB 35 = .ok (.ireturn, 1) := by decide +kernel
def site : List Cond := []
def tab : Cond := tabOf yN yB 3 (some .boolean) site
def P (a : Addr) (A : Cell) (b : Addr) (B : Cell) (args : Array Value) (s : State) : Prop := args = #[.ref a, .ref b] ∧ XT.Arr .byte a A s ∧ Typed .byte A ∧ XT.Arr .byte b B s ∧ Typed .byte B
/-- whether two byte[] are equal, place for place -/
theorem law (l : Launch) (a : Addr) (A : Cell) (b : Addr) (B : Cell) : Law l yN 2 2 0 0 yB 3 (some .boolean) site (P a A b B) (Says01 (EqC A B)) [] 0 0 := by
  refine Law.of_walk (plainFor_of_name (by decide +kernel)) (by decide +kernel) (by decide +kernel) (by decide) (fun _ _ h => by rw [h.1]; rfl) (fun _ U U' hal hh h => ⟨h.1, h.2.1.mv hal hh, h.2.2.1, h.2.2.2.1.mv hal hh, h.2.2.2.2⟩) (fun r U U' V V' h1 hal h2 h => Says01.mv r U U' V V' h1 hal h2 h) ?_
  intro p e s m args below meth c s₁ X0 hexec hbytes hml hret hlk hnm hown hh0 W hP
  obtain ⟨rfl, hA, tA, hB, tB⟩ := hP
  have a31 := hA.2.2.2
  have b31 := hB.2.2.2
  have hA0 := hA.mv X0.warmed.alike hh0
  have hB0 := hB.mv X0.warmed.alike hh0
  have c1 : Steps p.tables e below (s₁.setTop (entryFrame m #[.ref a, .ref b] 3)) (s₁.setTop (mkF m 0 #[.val (.ref a), .val (.ref b), .unset] [])) := entry rfl
  have c2 : Steps p.tables e below (s₁.setTop (entryFrame m #[.ref a, .ref b] 3)) (s₁.setTop (mkF m 4 #[.val (.ref a), .val (.ref b), .unset] [.int (Int32.ofNat B.slots.size), .int (Int32.ofNat A.slots.size)])) := c1.trans (by
    refine XS.aloadN X0.here hexec rfl (hb hbytes d0) rfl rfl ?_
    refine X0.alen hexec hA0 rfl rfl (hb hbytes d1) ?_
    refine XS.aloadN X0.here hexec rfl (hb hbytes d2) rfl rfl ?_
    refine X0.alen hexec hB0 rfl rfl (hb hbytes d3) ?_
    exact Steps.refl _)
  by_cases hs : A.slots.size = B.slots.size
  · have c3 : Steps p.tables e below (s₁.setTop (entryFrame m #[.ref a, .ref b] 3)) (s₁.setTop (mkF m 9 #[.val (.ref a), .val (.ref b), .val (.int 0)] [])) := c2.trans (by
      refine XS.icmpNo X0.here hexec rfl (hb hbytes d4) rfl (ii_ne_f (by rw [hs])) ?_
      refine iconstV X0.here hexec rfl 0 (hb hbytes d7) (by decide) ?_
      refine XS.istoreN X0.here hexec rfl (hb hbytes d8) rfl rfl ?_
      exact Steps.refl _)
    have loop : ∀ (r i : Nat), i + r = A.slots.size → (∀ j, j < i → yv A j = yv B j) → Steps p.tables e below (s₁.setTop (entryFrame m #[.ref a, .ref b] 3)) (s₁.setTop (mkF m 9 #[.val (.ref a), .val (.ref b), .val (.int (Int32.ofNat i))] [])) → ∃ (pc : Nat) (Ls : Array Slot) (v : Int32), (pc = 25 ∨ pc = 33) ∧ ((v = 1 ∧ EqC A B) ∨ (v = 0 ∧ ¬ EqC A B)) ∧ Steps p.tables e below (s₁.setTop (entryFrame m #[.ref a, .ref b] 3)) (s₁.setTop (mkF m pc Ls [.int v])) := by
      intro r
      induction r with
      | zero =>
        intro i hi he cl
        exact ⟨33, _, 1, Or.inr rfl, Or.inl ⟨rfl, hs, fun j hj => he j (by omega)⟩, cl.trans (by
          refine XS.iloadN X0.here hexec rfl (hb hbytes d9) rfl ?_
          refine XS.aloadN X0.here hexec rfl (hb hbytes d10) rfl rfl ?_
          refine X0.alen hexec hA0 rfl rfl (hb hbytes d11) ?_
          refine XS.icmpYes X0.here hexec rfl (pc0 := 12) rfl (hb hbytes d12) rfl (ii_ge_t (nlt32 (by omega) (by omega))) (by decide) rfl ?_
          refine iconstV X0.here hexec rfl 1 (hb hbytes d32) (by decide) ?_
          exact Steps.refl _)⟩
      | succ r ih =>
        intro i hi he cl
        have c4 : Steps p.tables e below (s₁.setTop (entryFrame m #[.ref a, .ref b] 3)) (s₁.setTop (mkF m 21 #[.val (.ref a), .val (.ref b), .val (.int (Int32.ofNat i))] [.int (yv B i), .int (yv A i)])) := cl.trans (by
          refine XS.iloadN X0.here hexec rfl (hb hbytes d9) rfl ?_
          refine XS.aloadN X0.here hexec rfl (hb hbytes d10) rfl rfl ?_
          refine X0.alen hexec hA0 rfl rfl (hb hbytes d11) ?_
          refine XS.icmpNo X0.here hexec rfl (hb hbytes d12) rfl (ii_ge_f (lt32 (by omega) (by omega))) ?_
          refine XS.aloadN X0.here hexec rfl (hb hbytes d15) rfl rfl ?_
          refine XS.iloadN X0.here hexec rfl (hb hbytes d16) rfl ?_
          refine X0.aget hexec hA0 rfl (yv_get hA tA (i := i) (by omega)) rfl rfl (hb hbytes d17) ?_
          refine XS.aloadN X0.here hexec rfl (hb hbytes d18) rfl rfl ?_
          refine XS.iloadN X0.here hexec rfl (hb hbytes d19) rfl ?_
          refine X0.aget hexec hB0 rfl (yv_get hB tB (i := i) (by omega)) rfl rfl (hb hbytes d20) ?_
          exact Steps.refl _)
        by_cases hv : yv A i = yv B i
        · have c5 : Steps p.tables e below (s₁.setTop (entryFrame m #[.ref a, .ref b] 3)) (s₁.setTop (mkF m 9 #[.val (.ref a), .val (.ref b), .val (.int (Int32.ofNat i + 1))] [])) := c4.trans (by
            refine XS.icmpYes X0.here hexec rfl (pc0 := 21) rfl (hb hbytes d21) rfl (ii_eq_t hv) (by decide) rfl ?_
            refine iincV X0.here hexec rfl 1 (hb hbytes d26) (by decide) rfl rfl ?_
            refine XS.goto X0.here hexec rfl (pc0 := 29) rfl (hb hbytes d29) (by decide) rfl ?_
            exact Steps.refl _)
          rw [succ32] at c5
          exact ih (i + 1) (by omega) (fun j hj => by
            by_cases e : j = i
            · rw [e]; exact hv
            · exact he j (by omega)) c5
        · exact ⟨25, _, 0, Or.inl rfl, Or.inr ⟨rfl, fun q => hv (q.2 i (by omega))⟩, c4.trans (by
            refine XS.icmpNo X0.here hexec rfl (hb hbytes d21) rfl (ii_eq_f hv) ?_
            refine iconstV X0.here hexec rfl 0 (hb hbytes d24) (by decide) ?_
            exact Steps.refl _)⟩
    obtain ⟨pc, Ls, v, hpc, hv, cz⟩ := loop A.slots.size 0 (by omega) (fun j hj => absurd hj (Nat.not_lt_zero j)) c3
    have nv : narrow .boolean (.int v) = .int v := by rcases hv with ⟨rfl, -⟩ | ⟨rfl, -⟩ <;> rfl
    rcases hpc with rfl | rfl
    · exact ⟨s₁, some (.int v), _, _, _, X0, rfl, rfl, rfl, (fun h => by cases h), ⟨v, rfl, hh0, hv⟩, fun fs hl => cz.trans (X0.ireturnOut hexec hret nv (Or.inr (Or.inl rfl)) (hb hbytes d25) hl)⟩
    · exact ⟨s₁, some (.int v), _, _, _, X0, rfl, rfl, rfl, (fun h => by cases h), ⟨v, rfl, hh0, hv⟩, fun fs hl => cz.trans (X0.ireturnOut hexec hret nv (Or.inr (Or.inl rfl)) (hb hbytes d33) hl)⟩
  · have c3 : Steps p.tables e below (s₁.setTop (entryFrame m #[.ref a, .ref b] 3)) (s₁.setTop (mkF m 35 #[.val (.ref a), .val (.ref b), .unset] [.int 0])) := c2.trans (by
      refine XS.icmpYes X0.here hexec rfl (pc0 := 4) rfl (hb hbytes d4) rfl (ii_ne_t (ne32 a31 b31 hs)) (by decide) rfl ?_
      refine iconstV X0.here hexec rfl 0 (hb hbytes d34) (by decide) ?_
      exact Steps.refl _)
    exact ⟨s₁, some (.int 0), _, _, _, X0, rfl, rfl, rfl, (fun h => by cases h), ⟨0, rfl, hh0, Or.inr ⟨rfl, fun q => hs q.1⟩⟩, fun fs hl => c3.trans (X0.ireturnOut hexec hret rfl (Or.inr (Or.inl rfl)) (hb hbytes d35) hl)⟩
end LEq
theorem Cod.ty {cd : Int32} {n : Nat} {f : Nat → Int32} {V : Cell} (h : Cod cd n f V) : Typed .byte V := fun i v hv => by
  have hi : i < V.slots.size := (Array.getElem?_eq_some_iff.mp hv).1
  rcases h with ⟨-, k1, k2⟩ | ⟨-, k1, k2, -⟩
  · rw [(k2 i (by omega)).1] at hv; cases hv; exact fits_lo8 _
  · rcases Nat.mod_two_eq_zero_or_one i with e | e
    · obtain ⟨j, rfl⟩ : ∃ j, i = 2 * j := ⟨i / 2, by omega⟩
      rw [(k2 j (by omega)).1] at hv; cases hv; exact fits_lo8 _
    · obtain ⟨j, rfl⟩ : ∃ j, i = 2 * j + 1 := ⟨i / 2, by omega⟩
      rw [(k2 j (by omega)).2] at hv; cases hv; exact fits_lo8 _
/-- the same text -/
def SameT (n : Nat) (f : Nat → Int32) (k : Nat) (g : Nat → Int32) : Prop := n = k ∧ ∀ j, j < n → f j = g j
theorem lo8_inj {x y : Int32} (h0 : ¬ x < 0) (h1 : ¬ 255 < x) (k0 : ¬ y < 0) (k1 : ¬ 255 < y) (h : lo8 x = lo8 y) : x = y := by
  rw [← lo8_mask h0 h1, ← lo8_mask k0 k1, h]
/-- arrays coded by one coder are equal just where the texts are -/
theorem Cod.eqv {cd : Int32} {n k : Nat} {f g : Nat → Int32} {V V' : Cell} (h : Cod cd n f V) (h' : Cod cd k g V') (hf : ∀ j, j < n → ¬ f j < 0 ∧ ¬ 65535 < f j) (hg : ∀ j, j < k → ¬ g j < 0 ∧ ¬ 65535 < g j) : EqC V V' ↔ SameT n f k g := by
  have yvv : ∀ {W : Cell} {i : Nat} {x : Int32}, W.slots[i]? = some (.int x) → yv W i = x := fun q => by unfold yv; rw [q]
  rcases h with ⟨rfl, k1, k2⟩ | ⟨rfl, k1, k2, -⟩
  · rcases h' with ⟨-, m1, m2⟩ | ⟨e, -⟩
    · constructor
      · rintro ⟨e1, e2⟩
        refine ⟨by omega, fun j hj => ?_⟩
        have q := e2 j (by omega)
        rw [yvv (k2 j hj).1, yvv (m2 j (by omega)).1] at q
        exact lo8_inj (hf j hj).1 (k2 j hj).2 (hg j (by omega)).1 (m2 j (by omega)).2 q
      · rintro ⟨rfl, e2⟩
        refine ⟨by omega, fun j hj => ?_⟩
        rw [yvv (k2 j (by omega)).1, yvv (m2 j (by omega)).1, e2 j (by omega)]
    · exact absurd e (by decide)
  · rcases h' with ⟨e, -⟩ | ⟨-, m1, m2, -⟩
    · exact absurd e (by decide)
    · constructor
      · rintro ⟨e1, e2⟩
        refine ⟨by omega, fun j hj => ?_⟩
        have q1 := e2 (2 * j) (by omega)
        have q2 := e2 (2 * j + 1) (by omega)
        rw [yvv (k2 j hj).1, yvv (m2 j (by omega)).1] at q1
        rw [yvv (k2 j hj).2, yvv (m2 j (by omega)).2] at q2
        rw [← pair_says (hf j hj).1 (hf j hj).2, ← pair_says (hg j (by omega)).1 (hg j (by omega)).2, q1, q2]
      · rintro ⟨rfl, e2⟩
        refine ⟨by omega, fun i hi => ?_⟩
        rcases Nat.mod_two_eq_zero_or_one i with e | e
        · obtain ⟨j, rfl⟩ : ∃ j, i = 2 * j := ⟨i / 2, by omega⟩
          rw [yvv (k2 j (by omega)).1, yvv (m2 j (by omega)).1, e2 j (by omega)]
        · obtain ⟨j, rfl⟩ : ∃ j, i = 2 * j + 1 := ⟨i / 2, by omega⟩
          rw [yvv (k2 j (by omega)).2, yvv (m2 j (by omega)).2, e2 j (by omega)]
/-- two codings differ: so do the texts -/
theorem Cod.dif {cd cd' : Int32} {n k : Nat} {f g : Nat → Int32} {V V' : Cell} (h : Cod cd n f V) (h' : Cod cd' k g V') (hne : ¬ cd = cd') : ¬ SameT n f k g := by
  rintro ⟨rfl, e⟩
  rcases h with ⟨rfl, -, k2⟩ | ⟨rfl, -, -, j, hj, hw⟩
  · rcases h' with ⟨rfl, -⟩ | ⟨-, -, -, j, hj, hw⟩
    · exact hne rfl
    · exact (k2 j hj).2 (by rw [e j hj]; exact hw)
  · rcases h' with ⟨-, -, m2⟩ | ⟨rfl, -⟩
    · exact (m2 j hj).2 (by rw [← e j hj]; exact hw)
    · exact hne rfl
/-- an object of exactly C is an instance of C -/
theorem cinst {p : Program} {l : Launch} {e : Env} {R : Room} {s : State} {m : MethodId} {args : Array Value} {below : List Frame} {meth : Method} {c : Code} {T : State} {locs : List Loc} {cells slots : Nat} (X : Stand p l e R s m args below meth c T locs cells slots) (hexec : p.tables.exec = Jvm.exec) {own C : String} {index : Nat} (hown : s.vm.findClass own = some m.cls) (hlink : (Cond.classLink own index C).before args s = true) {a : Addr} (hE : Exact C a T)
    {g : JFrame} (hg : g.method = m) {rest : List Value} (hstack : g.stack = .ref a :: rest) (hdg : decode c.code g.pc = .ok (.instanceof index, 3)) :
    ∃ T', Stand p l e R s m args below meth c T' locs cells slots ∧ T'.heap = T.heap ∧ ∀ target, Steps p.tables e below (T'.setTop { g with pc := g.pc + 3, stack := .int 1 :: rest }) target → Steps p.tables e below (T.setTop g) target := by
  obtain ⟨cB, h1, D, h2, h3, h4⟩ := hE
  have h1' : s.vm.findClass C = some cB := by rw [← X.warmed.alike.findClass]; exact h1
  obtain ⟨vm', X', st⟩ := X.instanceofYes hexec hown hlink h2 h4 h1' (by rw [h3]; exact Jvm.Free.SB.assignable_self _ _) hg hstack hdg
  exact ⟨_, X', rfl, st⟩
theorem cself {p : Program} {l : Launch} {e : Env} {R : Room} {s : State} {m : MethodId} {args : Array Value} {below : List Frame} {meth : Method} {c : Code} {T : State} {locs : List Loc} {cells slots : Nat} (X : Stand p l e R s m args below meth c T locs cells slots) (hexec : p.tables.exec = Jvm.exec) {own C : String} {index : Nat} (hown : s.vm.findClass own = some m.cls) (hlink : (Cond.classLink own index C).before args s = true) {a : Addr} (hE : Exact C a T)
    {g : JFrame} (hg : g.method = m) {rest : List Value} (hstack : g.stack = .ref a :: rest) (hdg : decode c.code g.pc = .ok (.checkcast index, 3)) :
    ∃ T', Stand p l e R s m args below meth c T' locs cells slots ∧ T'.heap = T.heap ∧ ∀ target, Steps p.tables e below (T'.setTop { g with pc := g.pc + 3, stack := .ref a :: rest }) target → Steps p.tables e below (T.setTop g) target := by
  obtain ⟨cB, h1, D, h2, h3, h4⟩ := hE
  have h1' : s.vm.findClass C = some cB := by rw [← X.warmed.alike.findClass]; exact h1
  obtain ⟨vm', X', st⟩ := X.checkcastYes hexec hown hlink h2 h4 h1' (by rw [h3]; exact Jvm.Free.SB.assignable_self _ _) hg hstack hdg
  exact ⟨_, X', rfl, fun t h => st t (by rw [← hstack] at h; exact h)⟩
namespace SEq
def yN : MethodName := ⟨"java/lang/String", "equals", "(Ljava/lang/Object;)Z"⟩
abbrev yB : ByteArray := jdk_42_method_66_code
theorem d0 : decode yB 0 = .ok (.aload_n 0, 1) := by decide +kernel
theorem d1 : decode yB 1 = .ok (.aload_n 1, 1) := by decide +kernel
theorem d2 : decode yB 2 = .ok (.if_acmp (.ne) 5, 3) := by decide +kernel
theorem d5 : decode yB 5 = .ok (.iconst 1, 1) := by decide +kernel
theorem d6 : decode yB 6 = .ok (.ireturn, 1) := by decide +kernel
theorem d7 : decode yB 7 = .ok (.aload_n 1, 1) := by decide +kernel
theorem d8 : decode yB 8 = .ok (.instanceof 10, 3) := by decide +kernel
theorem d11 : decode yB 11 = .ok (.ifCond (.eq) 43, 3) := by decide +kernel
theorem d14 : decode yB 14 = .ok (.aload_n 1, 1) := by decide +kernel
theorem d15 : decode yB 15 = .ok (.checkcast 10, 3) := by decide +kernel
theorem d18 : decode yB 18 = .ok (.astore_n 2, 1) := by decide +kernel
theorem d19 : decode yB 19 = .ok (.getstatic 38, 3) := by decide +kernel
theorem d22 : decode yB 22 = .ok (.ifCond (.eq) 14, 3) := by decide +kernel
theorem d25 : decode yB 25 = .ok (.aload_n 0, 1) := by decide +kernel
theorem d26 : decode yB 26 = .ok (.getfield 15, 3) := by decide +kernel
theorem d29 : decode yB 29 = .ok (.aload_n 2, 1) := by decide +kernel
theorem d30 : decode yB 30 = .ok (.getfield 15, 3) := by decide +kernel
theorem d33 : decode yB 33 = .ok (.if_icmp (.ne) 21, 3) := by decide +kernel
theorem d36 : decode yB 36 = .ok (.aload_n 0, 1) := by decide +kernel
theorem d37 : decode yB 37 = .ok (.getfield 9, 3) := by decide +kernel
theorem d40 : decode yB 40 = .ok (.aload_n 2, 1) := by decide +kernel
theorem d41 : decode yB 41 = .ok (.getfield 9, 3) := by decide +kernel
theorem d44 : decode yB 44 = .ok (.invokestatic 541, 3) := by decide +kernel
theorem d47 : decode yB 47 = .ok (.ifCond (.eq) 7, 3) := by decide +kernel
theorem d50 : decode yB 50 = .ok (.iconst 1, 1) := by decide +kernel
theorem d51 : decode yB 51 = .ok (.goto 4, 3) := by decide +kernel
theorem d54 : decode yB 54 = .ok (.iconst 0, 1) := by decide +kernel
theorem d55 : decode yB 55 = .ok (.ireturn, 1) := by decide +kernel
def site : List Cond := [.classLink "java/lang/String" 10 "java/lang/String", .fieldLink "java/lang/String" 38 "java/lang/String" "COMPACT_STRINGS" "Z", .fieldLink "java/lang/String" 15 "java/lang/String" "coder" "B", .fieldLink "java/lang/String" 9 "java/lang/String" "value" "[B", LEq.tab] ++ staticW "java/lang/String" 541 LEq.yN
def tab : Cond := tabOf yN yB 3 (some .boolean) site
def P (x t : Addr) (V : Cell) (cd : Int32) (n : Nat) (f : Nat → Int32) (y t' : Addr) (V' : Cell) (cd' : Int32) (k : Nat) (g : Nat → Int32) (z : Int32) (args : Array Value) (s : State) : Prop := args = #[.ref x, .ref y] ∧ Txt x t V cd n f s ∧ Txt y t' V' cd' k g s ∧ StaticIs s "java/lang/String" "COMPACT_STRINGS" "Z" (.int z) ∧ ¬ z = 0
/-- equals(Object) of two Strings: whether the texts are the same -/
theorem law (l : Launch) (x t : Addr) (V : Cell) (cd : Int32) (n : Nat) (f : Nat → Int32) (y t' : Addr) (V' : Cell) (cd' : Int32) (k : Nat) (g : Nat → Int32) (z : Int32) : Law l yN 2 1 1 14 yB 3 (some .boolean) site (P x t V cd n f y t' V' cd' k g z) (Says01 (SameT n f k g)) [] 0 0 := by
  refine Law.of_walk (plainFor_of_name (by decide +kernel)) (by decide +kernel) (by decide +kernel) (by decide) (fun _ _ h => by rw [h.1]; rfl) (fun _ U U' hal hh h => ⟨h.1, h.2.1.mv hal hh, h.2.2.1.mv hal hh, h.2.2.2.1.there hal hh, h.2.2.2.2⟩) (fun r U U' V V' h1 hal h2 h => Says01.mv r U U' V V' h1 hal h2 h) ?_
  intro p e s m args below meth c s₁ X0 hexec hbytes hml hret hlk hnm hown hh0 W hP
  obtain ⟨rfl, hx, hy, s1, hz⟩ := hP
  have c1 : Steps p.tables e below (s₁.setTop (entryFrame m #[.ref x, .ref y] 3)) (s₁.setTop (mkF m 2 #[.val (.ref x), .val (.ref y), .unset] [.ref y, .ref x])) := Steps.trans (entry rfl) (by
    show Steps p.tables e below (s₁.setTop (mkF m 0 #[.val (.ref x), .val (.ref y), .unset] [])) _
    refine XS.aloadN X0.here hexec rfl (hb hbytes d0) rfl rfl ?_
    refine XS.aloadN X0.here hexec rfl (hb hbytes d1) rfl rfl ?_
    exact Steps.refl _)
  by_cases hxy : x = y
  · have c2 : Steps p.tables e below (s₁.setTop (entryFrame m #[.ref x, .ref y] 3)) (s₁.setTop (mkF m 6 #[.val (.ref x), .val (.ref y), .unset] [.int 1])) := c1.trans (by
      refine acmpNo X0.here hexec rfl (hb hbytes d2) rfl rfl rfl (by simp [acmp, hxy]) ?_
      refine iconstV X0.here hexec rfl 1 (hb hbytes d5) (by decide) ?_
      exact Steps.refl _)
    subst hxy
    have ec : cd = cd' := by
      obtain ⟨D, fd, a1, a2, a3⟩ := hx.2.2.1
      obtain ⟨D', fd', b1, b2, b3⟩ := hy.2.2.1
      cases a1.symm.trans b1
      obtain ⟨q1, q2, q3, q4⟩ := a2.1
      obtain ⟨r1, r2, r3, r4⟩ := b2.1
      cases q4.symm.trans r4
      cases a3.symm.trans b3; rfl
    have et : t = t' := by
      obtain ⟨D, fd, a1, a2, a3⟩ := hx.2.1
      obtain ⟨D', fd', b1, b2, b3⟩ := hy.2.1
      cases a1.symm.trans b1
      obtain ⟨q1, q2, q3, q4⟩ := a2.1
      obtain ⟨r1, r2, r3, r4⟩ := b2.1
      cases q4.symm.trans r4
      cases a3.symm.trans b3; rfl
    subst ec et
    have ev : V = V' := by cases hx.2.2.2.1.1.symm.trans hy.2.2.2.1.1; rfl
    subst ev
    have hs : SameT n f k g := (Cod.eqv hx.2.2.2.2.1 hy.2.2.2.2.1 hx.2.2.2.2.2 hy.2.2.2.2.2).mp ⟨rfl, fun _ _ => rfl⟩
    exact ⟨s₁, some (.int 1), _, _, _, X0, rfl, rfl, rfl, (fun h => by cases h), ⟨1, rfl, hh0, Or.inl ⟨rfl, hs⟩⟩, fun fs hl => c2.trans (X0.ireturnOut hexec hret rfl (Or.inr (Or.inl rfl)) (hb hbytes d6) hl)⟩
  · have c2 : Steps p.tables e below (s₁.setTop (entryFrame m #[.ref x, .ref y] 3)) (s₁.setTop (mkF m 8 #[.val (.ref x), .val (.ref y), .unset] [.ref y])) := c1.trans (by
      refine acmpYes X0.here hexec rfl (pc0 := 2) rfl (hb hbytes d2) rfl rfl rfl (by simp [acmp, hxy]) (by decide) rfl ?_
      refine XS.aloadN X0.here hexec rfl (hb hbytes d7) rfl rfl ?_
      exact Steps.refl _)
    obtain ⟨T3, X3, q3, st3⟩ := cinst X0 hexec hown (wk W (.classLink "java/lang/String" 10 "java/lang/String")) (hy.mv X0.warmed.alike hh0).1 (g := (mkF m 8 #[.val (.ref x), .val (.ref y), .unset] [.ref y])) rfl (rest := []) rfl (hb hbytes d8)
    have hh3 := q3.trans hh0
    have c4 : Steps p.tables e below (s₁.setTop (entryFrame m #[.ref x, .ref y] 3)) (T3.setTop (mkF m 15 #[.val (.ref x), .val (.ref y), .unset] [.ref y])) := (c2.trans (st3 _ (Steps.refl _))).trans (by
      refine XS.ifNo X3.here hexec rfl (hb hbytes d11) rfl (i0_eq_f (by decide)) ?_
      refine XS.aloadN X3.here hexec rfl (hb hbytes d14) rfl rfl ?_
      exact Steps.refl _)
    obtain ⟨T5, X5, q5, st5⟩ := cself X3 hexec hown (wk W (.classLink "java/lang/String" 10 "java/lang/String")) (hy.mv X3.warmed.alike hh3).1 (g := (mkF m 15 #[.val (.ref x), .val (.ref y), .unset] [.ref y])) rfl (rest := []) rfl (hb hbytes d15)
    have hh5 := q5.trans hh3
    have c6 : Steps p.tables e below (s₁.setTop (entryFrame m #[.ref x, .ref y] 3)) (T5.setTop (mkF m 19 #[.val (.ref x), .val (.ref y), .val (.ref y)] [])) := (c4.trans (st5 _ (Steps.refl _))).trans (by
      refine XS.astoreN X5.here hexec rfl (hb hbytes d18) rfl rfl rfl ?_
      exact Steps.refl _)
    obtain ⟨T7, X7, q7, st7⟩ := X5.sget hexec hown (wk W (.fieldLink "java/lang/String" 38 "java/lang/String" "COMPACT_STRINGS" "Z")) s1 (fun _ _ h => by rw [hh5]; exact h) (g := (mkF m 19 #[.val (.ref x), .val (.ref y), .val (.ref y)] [])) rfl (hb hbytes d19)
    have hh7 := q7.trans hh5
    have c8 : Steps p.tables e below (s₁.setTop (entryFrame m #[.ref x, .ref y] 3)) (T7.setTop (mkF m 26 #[.val (.ref x), .val (.ref y), .val (.ref y)] [.ref x])) := (c6.trans (st7 _ (Steps.refl _))).trans (by
      refine XS.ifNo X7.here hexec rfl (hb hbytes d22) rfl (i0_eq_f hz) ?_
      refine XS.aloadN X7.here hexec rfl (hb hbytes d25) rfl rfl ?_
      exact Steps.refl _)
    obtain ⟨T9, X9, q9, st9⟩ := X7.hget hexec hown (wk W (.fieldLink "java/lang/String" 15 "java/lang/String" "coder" "B")) (hx.mv X7.warmed.alike hh7).2.2.1 (g := (mkF m 26 #[.val (.ref x), .val (.ref y), .val (.ref y)] [.ref x])) rfl (rest := []) rfl (hb hbytes d26)
    have hh9 := q9.trans hh7
    have c10 : Steps p.tables e below (s₁.setTop (entryFrame m #[.ref x, .ref y] 3)) (T9.setTop (mkF m 30 #[.val (.ref x), .val (.ref y), .val (.ref y)] [.ref y, .int cd])) := (c8.trans (st9 _ (Steps.refl _))).trans (by
      refine XS.aloadN X9.here hexec rfl (hb hbytes d29) rfl rfl ?_
      exact Steps.refl _)
    obtain ⟨T11, X11, q11, st11⟩ := X9.hget hexec hown (wk W (.fieldLink "java/lang/String" 15 "java/lang/String" "coder" "B")) (hy.mv X9.warmed.alike hh9).2.2.1 (g := (mkF m 30 #[.val (.ref x), .val (.ref y), .val (.ref y)] [.ref y, .int cd])) rfl (rest := [.int cd]) rfl (hb hbytes d30)
    have hh11 := q11.trans hh9
    have c12 : Steps p.tables e below (s₁.setTop (entryFrame m #[.ref x, .ref y] 3)) (T11.setTop (mkF m 33 #[.val (.ref x), .val (.ref y), .val (.ref y)] [.int cd', .int cd])) := c10.trans (st11 _ (Steps.refl _))
    by_cases hcd : cd = cd'
    · subst hcd
      have c13 : Steps p.tables e below (s₁.setTop (entryFrame m #[.ref x, .ref y] 3)) (T11.setTop (mkF m 37 #[.val (.ref x), .val (.ref y), .val (.ref y)] [.ref x])) := c12.trans (by
        refine XS.icmpNo X11.here hexec rfl (hb hbytes d33) rfl (ii_ne_f rfl) ?_
        refine XS.aloadN X11.here hexec rfl (hb hbytes d36) rfl rfl ?_
        exact Steps.refl _)
      obtain ⟨T14, X14, q14, st14⟩ := X11.hget hexec hown (wk W (.fieldLink "java/lang/String" 9 "java/lang/String" "value" "[B")) (hx.mv X11.warmed.alike hh11).2.1 (g := (mkF m 37 #[.val (.ref x), .val (.ref y), .val (.ref y)] [.ref x])) rfl (rest := []) rfl (hb hbytes d37)
      have hh14 := q14.trans hh11
      have c15 : Steps p.tables e below (s₁.setTop (entryFrame m #[.ref x, .ref y] 3)) (T14.setTop (mkF m 41 #[.val (.ref x), .val (.ref y), .val (.ref y)] [.ref y, .ref t])) := (c13.trans (st14 _ (Steps.refl _))).trans (by
        refine XS.aloadN X14.here hexec rfl (hb hbytes d40) rfl rfl ?_
        exact Steps.refl _)
      obtain ⟨T16, X16, q16, st16⟩ := X14.hget hexec hown (wk W (.fieldLink "java/lang/String" 9 "java/lang/String" "value" "[B")) (hy.mv X14.warmed.alike hh14).2.1 (g := (mkF m 41 #[.val (.ref x), .val (.ref y), .val (.ref y)] [.ref y, .ref t])) rfl (rest := [.ref t]) rfl (hb hbytes d41)
      have hh16 := q16.trans hh14
      have c17 : Steps p.tables e below (s₁.setTop (entryFrame m #[.ref x, .ref y] 3)) (T16.setTop (mkF m 44 #[.val (.ref x), .val (.ref y), .val (.ref y)] [.ref t', .ref t])) := c15.trans (st16 _ (Steps.refl _))
      obtain ⟨v18, T18, X18, E18, g18⟩ := X16.callS hexec (LEq.law l t V t' V') hown (wks W (staticW "java/lang/String" 541 LEq.yN)) (wk W LEq.tab) (W := 0) (Nat.le_of_ble_eq_true rfl) (Nat.le_of_ble_eq_true rfl) (Nat.le_refl _) (Nat.le_refl _) (g := (mkF m 44 #[.val (.ref x), .val (.ref y), .val (.ref y)] [.ref t', .ref t])) rfl (by rw [hml]; rfl) c17 (argsL := [.ref t, .ref t']) (rest := []) rfl rfl (by show 2 * 0 + 0 ≤ _; decide) (hb hbytes d44) (⟨rfl, hx.2.2.2.1.mv X16.warmed.alike hh16, hx.2.2.2.2.1.ty, hy.2.2.2.1.mv X16.warmed.alike hh16, hy.2.2.2.2.1.ty⟩)
      obtain ⟨v, rfl, q18, hv⟩ := E18
      have iff := Cod.eqv hx.2.2.2.2.1 hy.2.2.2.2.1 hx.2.2.2.2.2 hy.2.2.2.2.2
      rcases hv with ⟨rfl, he⟩ | ⟨rfl, he⟩
      · have c19 : Steps p.tables e below (s₁.setTop (entryFrame m #[.ref x, .ref y] 3)) (T18.setTop (mkF m 55 #[.val (.ref x), .val (.ref y), .val (.ref y)] [.int 1])) := Steps.trans g18 (by
          refine XS.ifNo X18.here hexec rfl (hb hbytes d47) rfl (i0_eq_f (by decide)) ?_
          refine iconstV X18.here hexec rfl 1 (hb hbytes d50) (by decide) ?_
          refine XS.goto X18.here hexec rfl (pc0 := 51) rfl (hb hbytes d51) (by decide) rfl ?_
          exact Steps.refl _)
        exact ⟨T18, some (.int 1), _, _, _, X18, rfl, rfl, rfl, (fun h => by cases h), ⟨1, rfl, q18.trans hh16, Or.inl ⟨rfl, iff.mp he⟩⟩, fun fs hl => c19.trans (X18.ireturnOut hexec hret rfl (Or.inr (Or.inl rfl)) (hb hbytes d55) hl)⟩
      · have c19 : Steps p.tables e below (s₁.setTop (entryFrame m #[.ref x, .ref y] 3)) (T18.setTop (mkF m 55 #[.val (.ref x), .val (.ref y), .val (.ref y)] [.int 0])) := Steps.trans g18 (by
          refine XS.ifYes X18.here hexec rfl (pc0 := 47) rfl (hb hbytes d47) rfl (i0_eq_t rfl) (by decide) rfl ?_
          refine iconstV X18.here hexec rfl 0 (hb hbytes d54) (by decide) ?_
          exact Steps.refl _)
        exact ⟨T18, some (.int 0), _, _, _, X18, rfl, rfl, rfl, (fun h => by cases h), ⟨0, rfl, q18.trans hh16, Or.inr ⟨rfl, fun q => he (iff.mpr q)⟩⟩, fun fs hl => c19.trans (X18.ireturnOut hexec hret rfl (Or.inr (Or.inl rfl)) (hb hbytes d55) hl)⟩
    · have c13 : Steps p.tables e below (s₁.setTop (entryFrame m #[.ref x, .ref y] 3)) (T11.setTop (mkF m 55 #[.val (.ref x), .val (.ref y), .val (.ref y)] [.int 0])) := c12.trans (by
        refine XS.icmpYes X11.here hexec rfl (pc0 := 33) rfl (hb hbytes d33) rfl (ii_ne_t hcd) (by decide) rfl ?_
        refine iconstV X11.here hexec rfl 0 (hb hbytes d54) (by decide) ?_
        exact Steps.refl _)
      exact ⟨T11, some (.int 0), _, _, _, X11, rfl, rfl, rfl, (fun h => by cases h), ⟨0, rfl, hh11, Or.inr ⟨rfl, Cod.dif hx.2.2.2.2.1 hy.2.2.2.2.1 hcd⟩⟩, fun fs hl => c13.trans (X11.ireturnOut hexec hret rfl (Or.inr (Or.inl rfl)) (hb hbytes d55) hl)⟩
theorem pays {l : Launch} {R : Room} {p : Program} {e : Env} {below : List Frame} {s : State} {sargs : Array Value} {len W : Nat} (x t : Addr) (V : Cell) (cd : Int32) (n : Nat) (f : Nat → Int32) (y t' : Addr) (V' : Cell) (cd' : Int32) (k : Nat) (g : Nat → Int32) (z : Int32) (htab : tab.before sargs s = true) (hfr : 2 ≤ R.frames) (hlo : W + 28 ≤ R.locals) :
    Back l R p e below s sargs yN len W (fun A₁ a₁ => A₁.cells + 0 ≤ R.cells ∧ A₁.slots + 0 ≤ R.slots ∧ P x t V cd n f y t' V' cd' k g z a₁ A₁.U) (fun A₁ _ v₁ B₁ => Says01 (SameT n f k g) v₁ A₁.U B₁.U ∧ B₁.locs = A₁.locs ++ [] ∧ B₁.cells = A₁.cells + 0 ∧ B₁.slots = A₁.slots + 0) :=
  (law l x t V cd n f y t' V' cd' k g z).pays htab hfr (by omega)
end SEq
end StrChars
namespace StrChars.Road
open Jvm Sem ClassFile Op Lib Jvm.Stand Jvm.Free Jvm.Free.XT
open Jvm.Lib.Cold (StaticIs)
/-- the words of String.equals(Object) -/
abbrev wordsEq : List Jvm.Cond := [.code SEq.yN SEq.yB 3 (some .boolean), .initialized ST, .classLink ST 10 ST, .fieldLink ST 38 ST "COMPACT_STRINGS" "Z", .fieldLink ST 15 ST "coder" "B", .fieldLink ST 9 ST "value" "[B", .methodLink ST 541 LEq.yN, .static LEq.yN, .code LEq.yN LEq.yB 3 (some .boolean), .initialized "java/lang/StringLatin1"]
theorem tabEq_of {a : Array Value} {s : State} (h : ∀ w ∈ wordsEq, w.before a s = true) : SEq.tab.before a s = true := by
  have hl : LEq.tab.before a s = true := unparts (wk h (.code LEq.yN LEq.yB 3 (some .boolean))) (wks h (.initialized LEq.yN.cls :: LEq.site))
  have q := consq hl h
  exact unparts (wk q (.code SEq.yN SEq.yB 3 (some .boolean))) (wks q (.initialized SEq.yN.cls :: SEq.site))
theorem movedEq {Z s : State} {a0 args : Array Value} (hZ : Z.Warmed39 s.vm) (hw : ∀ d ∈ wordsEq, d.before a0 Z = true) : ∀ d ∈ wordsEq, d.before args s = true := fun d hd => by
  have t : ∀ d ∈ wordsEq, (d.onTables && d.keepsFace) = true := by decide +kernel
  exact RoadKit.mv hZ (hw d hd) (t d hd)
/-- the road's facts of a String, as the laws ask it -/
theorem txt_of {Z U : State} {a0 : Array Value} {kI : Nat} (wi : (Jvm.Cond.instantiable ST kI).before a0 Z = true) (al : Z.vm.Alike U.vm) {x t : Addr} {kb : ClassId} {cs : List Int32} {cd N2 : Int32} {vs : List Value} (E : RoadKit.Exa Z U.heap x ST) (V : RoadKit.Fld Z U.heap x ST "value" "[B" (.ref t)) (C : RoadKit.Fld Z U.heap x ST "coder" "B" (.int cd)) (K : RoadKit.Arv Z U.heap t kb .byte N2 vs (.int 0)) (hc : CodA cs cd N2 vs) (hb : ∀ c ∈ cs, ¬ c < 0 ∧ ¬ (65535 : Int32) < c) (l2 : cs.length ≤ 4000) :
    ∃ A, Txt x t A cd cs.length (fun j => cs.getD j 0) U := by
  obtain ⟨A, K1, K2, K3, K4, K5, K6⟩ := K
  have hcod := hc.cod (by omega) K3 K5
  obtain ⟨D, fV, fC, hB, F1, F2, g1, g2, -, -⟩ := strObj wi al E V C
  exact ⟨A, ⟨_, hB.2.2.1, D, hB.1, rfl, by cases q : D.vm <;> first | rfl | exact absurd q (hB.2.1.2 _)⟩, Has.of hB F1 g1, Has.of hB F2 g2, ⟨K1.1, State.isArrayOf_alike al K1.2.1, K1.2.2, by rcases hcod with ⟨-, q, -⟩ | ⟨-, q, -⟩ <;> omega⟩, hcod, fun j hj => by
    have e : cs.getD j 0 = cs[j] := by simp [List.getD_eq_getElem?_getD, hj]
    show ¬ cs.getD j 0 < 0 ∧ ¬ 65535 < cs.getD j 0
    rw [e]; exact hb _ (List.getElem_mem _)⟩
theorem same_list (cs ds : List Int32) : SameT cs.length (fun j => cs.getD j 0) ds.length (fun j => ds.getD j 0) ↔ cs = ds := by
  constructor
  · rintro ⟨e, q⟩
    refine List.ext_getElem e fun j h1 h2 => ?_
    have := q j h1
    simpa [List.getD_eq_getElem?_getD, h1, h2] using this
  · rintro rfl
    exact ⟨rfl, fun _ _ => rfl⟩
/-- **equals(Object) OF TWO SUCH STRINGS**: 1 just where the chars are the same -/
theorem eqW {p : Program} {l : Launch} {e : Env} {R : Room} {s : State} {args : Array Value} {below : List Frame} {len W : Nat} {Z : State} {a0 : Array Value} {h : Heap} (hZ : Z.Warmed39 s.vm) (hw : ∀ d ∈ wordsEq, d.before a0 Z = true) {kI : Nat} (wi : (Jvm.Cond.instantiable ST kI).before a0 Z = true)
    {x t : Addr} {kb : ClassId} {cs : List Int32} {cd N2 : Int32} {vs : List Value} (E : RoadKit.Exa Z h x ST) (V : RoadKit.Fld Z h x ST "value" "[B" (.ref t)) (C : RoadKit.Fld Z h x ST "coder" "B" (.int cd)) (K : RoadKit.Arv Z h t kb .byte N2 vs (.int 0)) (hc : CodA cs cd N2 vs) (hb : ∀ c ∈ cs, ¬ c < 0 ∧ ¬ (65535 : Int32) < c) (l2 : cs.length ≤ 4000)
    {y t' : Addr} {kb' : ClassId} {ds : List Int32} {cd' N2' : Int32} {vs' : List Value} (E' : RoadKit.Exa Z h y ST) (V' : RoadKit.Fld Z h y ST "value" "[B" (.ref t')) (C' : RoadKit.Fld Z h y ST "coder" "B" (.int cd')) (K' : RoadKit.Arv Z h t' kb' .byte N2' vs' (.int 0)) (hc' : CodA ds cd' N2' vs') (hb' : ∀ c ∈ ds, ¬ c < 0 ∧ ¬ (65535 : Int32) < c) (l2' : ds.length ≤ 4000)
    {z : Int32} (S : RoadKit.Sta Z h ST "COMPACT_STRINGS" "Z" (.int z)) (hz : ¬ z = 0) (hfr : 2 ≤ R.frames) (hlo : W + 28 ≤ R.locals) :
    Back l R p e below s args (⟨"java/lang/String", "equals", "(Ljava/lang/Object;)Z"⟩ : MethodName) len W (fun P a => a = #[.ref x, .ref y] ∧ P.U.heap = h ∧ P.cells + 0 ≤ R.cells ∧ P.slots + 0 ≤ R.slots)
      (fun P _ v B => ∃ L, (((v = some (.int 1) ∧ cs = ds) ∨ (v = some (.int 0) ∧ ¬ cs = ds)) ∧ L = [] ∧ B.U.heap = h) ∧ B.locs = P.locs ++ L ∧ B.cells = P.cells + 0 ∧ B.slots = P.slots + 0) := by
  intro m meth c P g ig mk a X hg hsize hdg hW hn hp'
  obtain ⟨rfl, rfl, r1, r2⟩ := hp'
  have al : Z.vm.Alike P.U.vm := hZ.alike.trans X.warmed.alike
  obtain ⟨A, hx⟩ := txt_of wi al E V C K hc hb l2
  obtain ⟨A', hy⟩ := txt_of wi al E' V' C' K' hc' hb' l2'
  obtain ⟨v, B, X', ⟨⟨w, hv, hh, hq⟩, hl, hk, hs⟩, st⟩ := SEq.pays x t A cd cs.length (fun j => cs.getD j 0) y t' A' cd' ds.length (fun j => ds.getD j 0) z (tabEq_of (movedEq hZ hw)) hfr hlo m meth c P g ig mk _ X hg hsize hdg hW hn ⟨r1, r2, rfl, hx, hy, sta_is al S, hz⟩
  refine ⟨v, B, X', ⟨[], ⟨?_, rfl, hh⟩, hl, hk, hs⟩, st⟩
  rcases hq with ⟨rfl, q⟩ | ⟨rfl, q⟩
  · exact Or.inl ⟨hv, (same_list cs ds).mp q⟩
  · exact Or.inr ⟨hv, fun e => q ((same_list cs ds).mpr e)⟩
end StrChars.Road
namespace StrChars.Road
open Jvm Sem ClassFile Op Lib Jvm.Stand Jvm.Free Jvm.Free.XT
open Jvm.Lib.Cold (StaticIs)
/-- what backV says of its String, as the contracts of this text ask it: cs's low bytes, coder 0 -/
theorem codOf {cs : List Int32} {n : Nat} (hn : cs.length = n) (hb : ∀ c ∈ cs, ¬ 255 < c) : CodA cs 0 (Int32.ofNat n) ((cs.map lo8).map Value.int) := Or.inl ⟨rfl, by rw [hn], by simp [List.map_map, Function.comp_def], hb⟩
end StrChars.Road
end Jvm.Pilot.@@N@@
namespace Jvm.Pilot.@@N@@
open Jvm Jvm.ClassFile Sem Op Lib Jvm.Free Jvm.Stand Jvm.LawKit Jvm.RoadKit Bundle Jvm.Pilot.@@N@@.Jvm.D
namespace Ow
/-! A small logic of walks: Wq says: from every state that stands at pc with these locals, this stack and this heap, the body runs to its end and Post holds there. -/
def Cx (l : Launch) (nw : Bool) (Z : State) (EL : List (String × Nat)) (a0 : Array Value) (n0 : Nat) (y : MethodName) (B : ByteArray) (ml : Nat) (ret : Option FieldType) (R : Room) (h0 : Heap) (fs : List Addr) (h : Heap) (ce sl : Nat)
    (p : Program) (e : Env) (s : State) (m : MethodId) (args : Array Value) (below : List Frame) (meth : Method) (c : Code) (T : State) (locs : List Loc) (vm : Vm) (k : Nat) : Prop :=
  (p.tables.exec = Jvm.exec ∧ c.code = B ∧ c.maxLocals = ml ∧ meth.sig.returnType = ret ∧ meth.locks = false ∧ meth.name = y.name ∧ vm.findClass y.cls = some m.cls ∧ s.heap = h0) ∧
  (Z.Warmed39 vm ∧ (∀ d ∈ tables_1, d.before a0 Z = true) ∧ EW Z a0 EL ∧ (nw = true → vm = s.vm ∧ EL = [])) ∧
  Stand p l e R (s.setVm vm) m args below meth c T locs ce sl ∧ T.heap = h ∧ (Fr n0 locs ∧ Old Z n0 h) ∧ (s.Since vm k ∧ k ≤ h.size) ∧ CHr Z EL s.vm h0 vm h ∧ ∀ x ∈ fs, n0 ≤ x ∧ x < h.size ∧ Safe Z EL vm h x
def Fn (nw : Bool) (Z : State) (EL : List (String × Nat)) (n0 : Nat) (R : Room) (h0 : Heap) (Post : Option Value → Heap → Prop) (p : Program) (e : Env) (s : State) (below : List Frame) (t : State) : Prop :=
  ∃ s₂ o, Steps p.tables e below t s₂ ∧ s₂.status = .running ∧ Ended s₂ below o ∧ ∃ v L, o = .returned v ∧ Post v s₂.heap ∧ (Fr n0 L ∧ Old Z n0 s₂.heap) ∧ CHr Z EL s.vm h0 s₂.vm s₂.heap ∧ ReturnedEndW s o s₂ L R.cells R.slots ∧ (nw = true → s.WarmedH s₂.vm)
def Wq (l : Launch) (nw : Bool) (Z : State) (EL : List (String × Nat)) (a0 : Array Value) (n0 : Nat) (y : MethodName) (B : ByteArray) (ml : Nat) (ret : Option FieldType) (R : Room) (h0 : Heap) (Post : Option Value → Heap → Prop) (fs : List Addr) (h : Heap) (ce sl pc : Nat) (L : Array Slot) (S : List Value) : Prop :=
  ∀ (p : Program) (e : Env) (s : State) (m : MethodId) (args : Array Value) (below : List Frame) (meth : Method) (c : Code) (T : State) (locs : List Loc) (vm : Vm) (k : Nat),
    Cx l nw Z EL a0 n0 y B ml ret R h0 fs h ce sl p e s m args below meth c T locs vm k → Fn nw Z EL n0 R h0 Post p e s below (T.setTop (mkF m pc L S))
section Rules
variable {l : Launch} {nw : Bool} {Z : State} {EL : List (String × Nat)} {a0 : Array Value} {n0 : Nat} {y : MethodName} {B : ByteArray} {ml : Nat} {ret : Option FieldType} {R : Room} {h0 : Heap} {Post : Option Value → Heap → Prop} {fs : List Addr} {h : Heap} {ce sl pc pc' : Nat} {L : Array Slot} {S : List Value}
theorem Fn.st {p : Program} {e : Env} {s : State} {below : List Frame} {t t' : State} (st : ∀ u, Steps p.tables e below t' u → Steps p.tables e below t u) (K : Fn nw Z EL n0 R h0 Post p e s below t') : Fn nw Z EL n0 R h0 Post p e s below t := by
  obtain ⟨s₂, o, h1, r⟩ := K
  exact ⟨s₂, o, st _ h1, r⟩
theorem pu {L' : Array Slot} {S' : List Value} (st : ∀ {p : Program} {e : Env} {m : MethodId} {below : List Frame} {c : Code} {T t : State}, At T m c below → p.tables.exec = Jvm.exec → c.code = B → Steps p.tables e below (T.setTop (mkF m pc' L' S')) t → Steps p.tables e below (T.setTop (mkF m pc L S)) t)
    (K : Wq l nw Z EL a0 n0 y B ml ret R h0 Post fs h ce sl pc' L' S') : Wq l nw Z EL a0 n0 y B ml ret R h0 Post fs h ce sl pc L S := fun p e s m args below meth c T locs vm k C =>
  (K p e s m args below meth c T locs vm k C).st fun u q => st C.2.2.1.here C.1.1 C.1.2.1 q
/-- cells and slots may be counted higher -/
theorem more {ce' sl' : Nat} (hc : ce ≤ ce') (hs : sl ≤ sl') (K : Wq l nw Z EL a0 n0 y B ml ret R h0 Post fs h ce' sl' pc L S) : Wq l nw Z EL a0 n0 y B ml ret R h0 Post fs h ce sl pc L S := fun p e s m args below meth c T locs vm k C =>
  K p e s m args below meth c T locs vm k ⟨C.1, C.2.1, C.2.2.1.more hc hs, C.2.2.2⟩
theorem fewer {fs' : List Addr} (hf : ∀ x ∈ fs', x ∈ fs) (K : Wq l nw Z EL a0 n0 y B ml ret R h0 Post fs' h ce sl pc L S) : Wq l nw Z EL a0 n0 y B ml ret R h0 Post fs h ce sl pc L S := fun p e s m args below meth c T locs vm k C =>
  K p e s m args below meth c T locs vm k ⟨C.1, C.2.1, C.2.2.1, C.2.2.2.1, C.2.2.2.2.1, C.2.2.2.2.2.1, C.2.2.2.2.2.2.1, fun x hx => C.2.2.2.2.2.2.2 x (hf x hx)⟩
theorem at' {L' : Array Slot} {S' : List Value} {ce' sl' : Nat} (e4 : ce = ce') (e5 : sl = sl') (e1 : pc = pc') (e2 : L = L') (e3 : S = S') (K : Wq l nw Z EL a0 n0 y B ml ret R h0 Post fs h ce' sl' pc' L' S') : Wq l nw Z EL a0 n0 y B ml ret R h0 Post fs h ce sl pc L S := by subst e1 e2 e3 e4 e5; exact K
/-- the words of the sheet, at hand in the walk -/
theorem words (K : (∀ d ∈ tables_1, d.before a0 Z = true) → Wq l nw Z EL a0 n0 y B ml ret R h0 Post fs h ce sl pc L S) : Wq l nw Z EL a0 n0 y B ml ret R h0 Post fs h ce sl pc L S := fun p e s m args below meth c T locs vm k C => K C.2.1.2.1 p e s m args below meth c T locs vm k C
theorem ews (K : (∀ d ∈ tables_1, d.before a0 Z = true) → EW Z a0 EL → Wq l nw Z EL a0 n0 y B ml ret R h0 Post fs h ce sl pc L S) : Wq l nw Z EL a0 n0 y B ml ret R h0 Post fs h ce sl pc L S := fun p e s m args below meth c T locs vm k C => K C.2.1.2.1 C.2.1.2.2.1 p e s m args below meth c T locs vm k C
theorem fsz (K : (∀ x ∈ fs, n0 ≤ x ∧ x < h.size) → Wq l nw Z EL a0 n0 y B ml ret R h0 Post fs h ce sl pc L S) : Wq l nw Z EL a0 n0 y B ml ret R h0 Post fs h ce sl pc L S := fun p e s m args below meth c T locs vm k C => K (fun x q => ⟨(C.2.2.2.2.2.2.2 x q).1, (C.2.2.2.2.2.2.2 x q).2.1⟩) p e s m args below meth c T locs vm k C
theorem old (K : Old Z n0 h → h0.size ≤ h.size → Wq l nw Z EL a0 n0 y B ml ret R h0 Post fs h ce sl pc L S) : Wq l nw Z EL a0 n0 y B ml ret R h0 Post fs h ce sl pc L S := fun p e s m args below meth c T locs vm k C => K C.2.2.2.2.1.2 C.2.2.2.2.2.2.1.2.1 p e s m args below meth c T locs vm k C
theorem iload {j : Nat} {v : Int32} (hd : decode B pc = .ok (.iload j, 2)) (hl : L[j]? = some (.val (.int v))) (hp : pc + 2 = pc') (K : Wq l nw Z EL a0 n0 y B ml ret R h0 Post fs h ce sl pc' L (.int v :: S)) : Wq l nw Z EL a0 n0 y B ml ret R h0 Post fs h ce sl pc L S :=
  pu (fun h hx hb q => by subst hp; exact XS.iload h hx rfl (Jvm.hb hb hd) hl q) K
theorem iloadN {j : Fin 4} {v : Int32} (hd : decode B pc = .ok (.iload_n j, 1)) (hl : L[j.val]? = some (.val (.int v))) (hp : pc + 1 = pc') (K : Wq l nw Z EL a0 n0 y B ml ret R h0 Post fs h ce sl pc' L (.int v :: S)) : Wq l nw Z EL a0 n0 y B ml ret R h0 Post fs h ce sl pc L S :=
  pu (fun h hx hb q => by subst hp; exact XS.iloadN h hx rfl (Jvm.hb hb hd) hl q) K
theorem lload {j : Nat} {v : Int64} (hd : decode B pc = .ok (.lload j, 2)) (hl : L[j]? = some (.val (.long v))) (hp : pc + 2 = pc') (K : Wq l nw Z EL a0 n0 y B ml ret R h0 Post fs h ce sl pc' L (.long v :: S)) : Wq l nw Z EL a0 n0 y B ml ret R h0 Post fs h ce sl pc L S :=
  pu (fun h hx hb q => by subst hp; exact XS.lload h hx rfl (Jvm.hb hb hd) hl q) K
theorem lloadN {j : Fin 4} {v : Int64} (hd : decode B pc = .ok (.lload_n j, 1)) (hl : L[j.val]? = some (.val (.long v))) (hp : pc + 1 = pc') (K : Wq l nw Z EL a0 n0 y B ml ret R h0 Post fs h ce sl pc' L (.long v :: S)) : Wq l nw Z EL a0 n0 y B ml ret R h0 Post fs h ce sl pc L S :=
  pu (fun h hx hb q => by subst hp; exact XS.lloadN h hx rfl (Jvm.hb hb hd) hl q) K
theorem dload {j : Nat} {v : UInt64} (hd : decode B pc = .ok (.dload j, 2)) (hl : L[j]? = some (.val (.double v))) (hp : pc + 2 = pc') (K : Wq l nw Z EL a0 n0 y B ml ret R h0 Post fs h ce sl pc' L (.double v :: S)) : Wq l nw Z EL a0 n0 y B ml ret R h0 Post fs h ce sl pc L S :=
  pu (fun h hx hb q => by subst hp; exact Jvm.Free.XS.dload h hx rfl (Jvm.hb hb hd) hl q) K
theorem dloadN {j : Fin 4} {v : UInt64} (hd : decode B pc = .ok (.dload_n j, 1)) (hl : L[j.val]? = some (.val (.double v))) (hp : pc + 1 = pc') (K : Wq l nw Z EL a0 n0 y B ml ret R h0 Post fs h ce sl pc' L (.double v :: S)) : Wq l nw Z EL a0 n0 y B ml ret R h0 Post fs h ce sl pc L S :=
  pu (fun h hx hb q => by subst hp; exact XS.dloadN h hx rfl (Jvm.hb hb hd) hl q) K
theorem aload {j : Nat} {v : Value} (hd : decode B pc = .ok (.aload j, 2)) (hl : L[j]? = some (.val v)) (hv : v.isRef = true) (hp : pc + 2 = pc') (K : Wq l nw Z EL a0 n0 y B ml ret R h0 Post fs h ce sl pc' L (v :: S)) : Wq l nw Z EL a0 n0 y B ml ret R h0 Post fs h ce sl pc L S :=
  pu (fun h hx hb q => by subst hp; exact XS.aload h hx rfl (Jvm.hb hb hd) hl hv q) K
theorem aloadN {j : Fin 4} {v : Value} (hd : decode B pc = .ok (.aload_n j, 1)) (hl : L[j.val]? = some (.val v)) (hv : v.isRef = true) (hp : pc + 1 = pc') (K : Wq l nw Z EL a0 n0 y B ml ret R h0 Post fs h ce sl pc' L (v :: S)) : Wq l nw Z EL a0 n0 y B ml ret R h0 Post fs h ce sl pc L S :=
  pu (fun h hx hb q => by subst hp; exact XS.aloadN h hx rfl (Jvm.hb hb hd) hl hv q) K
theorem istore {j : Nat} {v : Int32} {L' : Array Slot} (hd : decode B pc = .ok (.istore j, 2)) (hl : storeLocals L j (.int v) = some L') (hp : pc + 2 = pc') (K : Wq l nw Z EL a0 n0 y B ml ret R h0 Post fs h ce sl pc' L' S) : Wq l nw Z EL a0 n0 y B ml ret R h0 Post fs h ce sl pc L (.int v :: S) :=
  pu (fun h hx hb q => by subst hp; exact XS.istore h hx rfl (Jvm.hb hb hd) rfl hl q) K
theorem istoreN {j : Fin 4} {v : Int32} {L' : Array Slot} (hd : decode B pc = .ok (.istore_n j, 1)) (hl : storeLocals L j.val (.int v) = some L') (hp : pc + 1 = pc') (K : Wq l nw Z EL a0 n0 y B ml ret R h0 Post fs h ce sl pc' L' S) : Wq l nw Z EL a0 n0 y B ml ret R h0 Post fs h ce sl pc L (.int v :: S) :=
  pu (fun h hx hb q => by subst hp; exact XS.istoreN h hx rfl (Jvm.hb hb hd) rfl hl q) K
theorem lstore {j : Nat} {v : Int64} {L' : Array Slot} (hd : decode B pc = .ok (.lstore j, 2)) (hl : storeLocals L j (.long v) = some L') (hp : pc + 2 = pc') (K : Wq l nw Z EL a0 n0 y B ml ret R h0 Post fs h ce sl pc' L' S) : Wq l nw Z EL a0 n0 y B ml ret R h0 Post fs h ce sl pc L (.long v :: S) :=
  pu (fun h hx hb q => by subst hp; exact XS.lstore h hx rfl (Jvm.hb hb hd) rfl hl q) K
theorem lstoreN {j : Fin 4} {v : Int64} {L' : Array Slot} (hd : decode B pc = .ok (.lstore_n j, 1)) (hl : storeLocals L j.val (.long v) = some L') (hp : pc + 1 = pc') (K : Wq l nw Z EL a0 n0 y B ml ret R h0 Post fs h ce sl pc' L' S) : Wq l nw Z EL a0 n0 y B ml ret R h0 Post fs h ce sl pc L (.long v :: S) :=
  pu (fun h hx hb q => by subst hp; exact XS.lstoreN h hx rfl (Jvm.hb hb hd) rfl hl q) K
theorem dstore {j : Nat} {v : UInt64} {L' : Array Slot} (hd : decode B pc = .ok (.dstore j, 2)) (hl : storeLocals L j (.double v) = some L') (hp : pc + 2 = pc') (K : Wq l nw Z EL a0 n0 y B ml ret R h0 Post fs h ce sl pc' L' S) : Wq l nw Z EL a0 n0 y B ml ret R h0 Post fs h ce sl pc L (.double v :: S) :=
  pu (fun h hx hb q => by subst hp; exact XS.dstore h hx rfl (Jvm.hb hb hd) rfl hl q) K
theorem dstoreN {j : Fin 4} {v : UInt64} {L' : Array Slot} (hd : decode B pc = .ok (.dstore_n j, 1)) (hl : storeLocals L j.val (.double v) = some L') (hp : pc + 1 = pc') (K : Wq l nw Z EL a0 n0 y B ml ret R h0 Post fs h ce sl pc' L' S) : Wq l nw Z EL a0 n0 y B ml ret R h0 Post fs h ce sl pc L (.double v :: S) :=
  pu (fun h hx hb q => by subst hp; exact XS.dstoreN h hx rfl (Jvm.hb hb hd) rfl hl q) K
theorem astore {j : Nat} {v : Value} {L' : Array Slot} (hd : decode B pc = .ok (.astore j, 2)) (hv : v.isRef = true) (hl : storeLocals L j v = some L') (hp : pc + 2 = pc') (K : Wq l nw Z EL a0 n0 y B ml ret R h0 Post fs h ce sl pc' L' S) : Wq l nw Z EL a0 n0 y B ml ret R h0 Post fs h ce sl pc L (v :: S) :=
  pu (fun h hx hb q => by subst hp; exact XS.astore h hx rfl (Jvm.hb hb hd) rfl hv hl q) K
theorem astoreN {j : Fin 4} {v : Value} {L' : Array Slot} (hd : decode B pc = .ok (.astore_n j, 1)) (hv : v.isRef = true) (hl : storeLocals L j.val v = some L') (hp : pc + 1 = pc') (K : Wq l nw Z EL a0 n0 y B ml ret R h0 Post fs h ce sl pc' L' S) : Wq l nw Z EL a0 n0 y B ml ret R h0 Post fs h ce sl pc L (v :: S) :=
  pu (fun h hx hb q => by subst hp; exact XS.astoreN h hx rfl (Jvm.hb hb hd) rfl hv hl q) K
theorem iconst {i : Int} {v : Int32} (hd : decode B pc = .ok (.iconst i, 1)) (hv : Int32.ofInt i = v) (hp : pc + 1 = pc') (K : Wq l nw Z EL a0 n0 y B ml ret R h0 Post fs h ce sl pc' L (.int v :: S)) : Wq l nw Z EL a0 n0 y B ml ret R h0 Post fs h ce sl pc L S :=
  pu (fun h hx hb q => by subst hp hv; exact XS.iconst h hx rfl (Jvm.hb hb hd) q) K
theorem bipush {i : Int} {v : Int32} (hd : decode B pc = .ok (.bipush i, 2)) (hv : (Int8.ofInt i).toInt32 = v) (hp : pc + 2 = pc') (K : Wq l nw Z EL a0 n0 y B ml ret R h0 Post fs h ce sl pc' L (.int v :: S)) : Wq l nw Z EL a0 n0 y B ml ret R h0 Post fs h ce sl pc L S :=
  pu (fun h hx hb q => by subst hp hv; exact XS.bipush h hx rfl (Jvm.hb hb hd) q) K
theorem sipush {i : Int} {v : Int32} (hd : decode B pc = .ok (.sipush i, 3)) (hv : (Int16.ofInt i).toInt32 = v) (hp : pc + 3 = pc') (K : Wq l nw Z EL a0 n0 y B ml ret R h0 Post fs h ce sl pc' L (.int v :: S)) : Wq l nw Z EL a0 n0 y B ml ret R h0 Post fs h ce sl pc L S :=
  pu (fun h hx hb q => by subst hp hv; exact XS.sipush h hx rfl (Jvm.hb hb hd) q) K
theorem lconst {j : Fin 2} {v : Int64} (hd : decode B pc = .ok (.lconst j, 1)) (hv : Int64.ofNat j = v) (hp : pc + 1 = pc') (K : Wq l nw Z EL a0 n0 y B ml ret R h0 Post fs h ce sl pc' L (.long v :: S)) : Wq l nw Z EL a0 n0 y B ml ret R h0 Post fs h ce sl pc L S :=
  pu (fun h hx hb q => by subst hp hv; exact XS.lconst h hx rfl (Jvm.hb hb hd) q) K
theorem aconst_null  (hd : decode B pc = .ok (.aconst_null, 1)) (hp : pc + 1 = pc') (K : Wq l nw Z EL a0 n0 y B ml ret R h0 Post fs h ce sl pc' L (.null :: S)) : Wq l nw Z EL a0 n0 y B ml ret R h0 Post fs h ce sl pc L S :=
  pu (fun h hx hb q => by subst hp; exact XS.aconstNull h hx rfl (Jvm.hb hb hd) q) K
theorem iadd {x z : Int32} (hd : decode B pc = .ok (.iadd, 1)) (hp : pc + 1 = pc') (K : Wq l nw Z EL a0 n0 y B ml ret R h0 Post fs h ce sl pc' L (.int (x + z) :: S)) : Wq l nw Z EL a0 n0 y B ml ret R h0 Post fs h ce sl pc L (.int z :: .int x :: S) :=
  pu (fun h hx hb q => by subst hp; exact XS.iadd h hx rfl (Jvm.hb hb hd) rfl q) K
theorem isub {x z : Int32} (hd : decode B pc = .ok (.isub, 1)) (hp : pc + 1 = pc') (K : Wq l nw Z EL a0 n0 y B ml ret R h0 Post fs h ce sl pc' L (.int (x - z) :: S)) : Wq l nw Z EL a0 n0 y B ml ret R h0 Post fs h ce sl pc L (.int z :: .int x :: S) :=
  pu (fun h hx hb q => by subst hp; exact XS.isub h hx rfl (Jvm.hb hb hd) rfl q) K
theorem imul {x z : Int32} (hd : decode B pc = .ok (.imul, 1)) (hp : pc + 1 = pc') (K : Wq l nw Z EL a0 n0 y B ml ret R h0 Post fs h ce sl pc' L (.int (x * z) :: S)) : Wq l nw Z EL a0 n0 y B ml ret R h0 Post fs h ce sl pc L (.int z :: .int x :: S) :=
  pu (fun h hx hb q => by subst hp; exact XS.imul h hx rfl (Jvm.hb hb hd) rfl q) K
theorem iand {x z : Int32} (hd : decode B pc = .ok (.iand, 1)) (hp : pc + 1 = pc') (K : Wq l nw Z EL a0 n0 y B ml ret R h0 Post fs h ce sl pc' L (.int (x &&& z) :: S)) : Wq l nw Z EL a0 n0 y B ml ret R h0 Post fs h ce sl pc L (.int z :: .int x :: S) :=
  pu (fun h hx hb q => by subst hp; exact XS.iand h hx rfl (Jvm.hb hb hd) rfl q) K
theorem ior {x z : Int32} (hd : decode B pc = .ok (.ior, 1)) (hp : pc + 1 = pc') (K : Wq l nw Z EL a0 n0 y B ml ret R h0 Post fs h ce sl pc' L (.int (x ||| z) :: S)) : Wq l nw Z EL a0 n0 y B ml ret R h0 Post fs h ce sl pc L (.int z :: .int x :: S) :=
  pu (fun h hx hb q => by subst hp; exact XS.ior h hx rfl (Jvm.hb hb hd) rfl q) K
theorem ixor {x z : Int32} (hd : decode B pc = .ok (.ixor, 1)) (hp : pc + 1 = pc') (K : Wq l nw Z EL a0 n0 y B ml ret R h0 Post fs h ce sl pc' L (.int (x ^^^ z) :: S)) : Wq l nw Z EL a0 n0 y B ml ret R h0 Post fs h ce sl pc L (.int z :: .int x :: S) :=
  pu (fun h hx hb q => by subst hp; exact XS.ixor h hx rfl (Jvm.hb hb hd) rfl q) K
theorem ishl {x z : Int32} (hd : decode B pc = .ok (.ishl, 1)) (hp : pc + 1 = pc') (K : Wq l nw Z EL a0 n0 y B ml ret R h0 Post fs h ce sl pc' L (.int (x <<< (z &&& 31)) :: S)) : Wq l nw Z EL a0 n0 y B ml ret R h0 Post fs h ce sl pc L (.int z :: .int x :: S) :=
  pu (fun h hx hb q => by subst hp; exact XS.ishl h hx rfl (Jvm.hb hb hd) rfl q) K
theorem ishr {x z : Int32} (hd : decode B pc = .ok (.ishr, 1)) (hp : pc + 1 = pc') (K : Wq l nw Z EL a0 n0 y B ml ret R h0 Post fs h ce sl pc' L (.int (x >>> (z &&& 31)) :: S)) : Wq l nw Z EL a0 n0 y B ml ret R h0 Post fs h ce sl pc L (.int z :: .int x :: S) :=
  pu (fun h hx hb q => by subst hp; exact XS.ishr h hx rfl (Jvm.hb hb hd) rfl q) K
theorem iushr {x z : Int32} (hd : decode B pc = .ok (.iushr, 1)) (hp : pc + 1 = pc') (K : Wq l nw Z EL a0 n0 y B ml ret R h0 Post fs h ce sl pc' L (.int ((x.toUInt32 >>> (z &&& 31).toUInt32).toInt32) :: S)) : Wq l nw Z EL a0 n0 y B ml ret R h0 Post fs h ce sl pc L (.int z :: .int x :: S) :=
  pu (fun h hx hb q => by subst hp; exact XS.iushr h hx rfl (Jvm.hb hb hd) rfl q) K
theorem ladd {x z : Int64} (hd : decode B pc = .ok (.ladd, 1)) (hp : pc + 1 = pc') (K : Wq l nw Z EL a0 n0 y B ml ret R h0 Post fs h ce sl pc' L (.long (x + z) :: S)) : Wq l nw Z EL a0 n0 y B ml ret R h0 Post fs h ce sl pc L (.long z :: .long x :: S) :=
  pu (fun h hx hb q => by subst hp; exact XS.ladd h hx rfl (Jvm.hb hb hd) rfl q) K
theorem lsub {x z : Int64} (hd : decode B pc = .ok (.lsub, 1)) (hp : pc + 1 = pc') (K : Wq l nw Z EL a0 n0 y B ml ret R h0 Post fs h ce sl pc' L (.long (x - z) :: S)) : Wq l nw Z EL a0 n0 y B ml ret R h0 Post fs h ce sl pc L (.long z :: .long x :: S) :=
  pu (fun h hx hb q => by subst hp; exact XS.lsub h hx rfl (Jvm.hb hb hd) rfl q) K
theorem lmul {x z : Int64} (hd : decode B pc = .ok (.lmul, 1)) (hp : pc + 1 = pc') (K : Wq l nw Z EL a0 n0 y B ml ret R h0 Post fs h ce sl pc' L (.long (x * z) :: S)) : Wq l nw Z EL a0 n0 y B ml ret R h0 Post fs h ce sl pc L (.long z :: .long x :: S) :=
  pu (fun h hx hb q => by subst hp; exact XS.lmul h hx rfl (Jvm.hb hb hd) rfl q) K
theorem land {x z : Int64} (hd : decode B pc = .ok (.land, 1)) (hp : pc + 1 = pc') (K : Wq l nw Z EL a0 n0 y B ml ret R h0 Post fs h ce sl pc' L (.long (x &&& z) :: S)) : Wq l nw Z EL a0 n0 y B ml ret R h0 Post fs h ce sl pc L (.long z :: .long x :: S) :=
  pu (fun h hx hb q => by subst hp; exact XS.land h hx rfl (Jvm.hb hb hd) rfl q) K
theorem lor {x z : Int64} (hd : decode B pc = .ok (.lor, 1)) (hp : pc + 1 = pc') (K : Wq l nw Z EL a0 n0 y B ml ret R h0 Post fs h ce sl pc' L (.long (x ||| z) :: S)) : Wq l nw Z EL a0 n0 y B ml ret R h0 Post fs h ce sl pc L (.long z :: .long x :: S) :=
  pu (fun h hx hb q => by subst hp; exact XS.lor h hx rfl (Jvm.hb hb hd) rfl q) K
theorem lxor {x z : Int64} (hd : decode B pc = .ok (.lxor, 1)) (hp : pc + 1 = pc') (K : Wq l nw Z EL a0 n0 y B ml ret R h0 Post fs h ce sl pc' L (.long (x ^^^ z) :: S)) : Wq l nw Z EL a0 n0 y B ml ret R h0 Post fs h ce sl pc L (.long z :: .long x :: S) :=
  pu (fun h hx hb q => by subst hp; exact XS.lxor h hx rfl (Jvm.hb hb hd) rfl q) K
theorem lshl {x : Int64} {z : Int32} (hd : decode B pc = .ok (.lshl, 1)) (hp : pc + 1 = pc') (K : Wq l nw Z EL a0 n0 y B ml ret R h0 Post fs h ce sl pc' L (.long (x <<< (z &&& 0x3f).toInt64) :: S)) : Wq l nw Z EL a0 n0 y B ml ret R h0 Post fs h ce sl pc L (.int z :: .long x :: S) :=
  pu (fun h hx hb q => by subst hp; exact XS.lshl h hx rfl (Jvm.hb hb hd) rfl q) K
theorem lshr {x : Int64} {z : Int32} (hd : decode B pc = .ok (.lshr, 1)) (hp : pc + 1 = pc') (K : Wq l nw Z EL a0 n0 y B ml ret R h0 Post fs h ce sl pc' L (.long (x >>> (z &&& 0x3f).toInt64) :: S)) : Wq l nw Z EL a0 n0 y B ml ret R h0 Post fs h ce sl pc L (.int z :: .long x :: S) :=
  pu (fun h hx hb q => by subst hp; exact XS.lshr h hx rfl (Jvm.hb hb hd) rfl q) K
theorem lushr {x : Int64} {z : Int32} (hd : decode B pc = .ok (.lushr, 1)) (hp : pc + 1 = pc') (K : Wq l nw Z EL a0 n0 y B ml ret R h0 Post fs h ce sl pc' L (.long ((x.toUInt64 >>> (z &&& 0x3f).toInt64.toUInt64).toInt64) :: S)) : Wq l nw Z EL a0 n0 y B ml ret R h0 Post fs h ce sl pc L (.int z :: .long x :: S) :=
  pu (fun h hx hb q => by subst hp; exact XS.lushr h hx rfl (Jvm.hb hb hd) rfl q) K
theorem idiv {x z : Int32} (hd : decode B pc = .ok (.idiv, 1)) (hz : ¬ z = 0) (hp : pc + 1 = pc') (K : Wq l nw Z EL a0 n0 y B ml ret R h0 Post fs h ce sl pc' L (.int (x / z) :: S)) : Wq l nw Z EL a0 n0 y B ml ret R h0 Post fs h ce sl pc L (.int z :: .int x :: S) :=
  pu (fun h hx hb q => by subst hp; exact XS.idiv h hx rfl (Jvm.hb hb hd) rfl hz q) K
theorem ldiv {x z : Int64} (hd : decode B pc = .ok (.ldiv, 1)) (hz : ¬ z = 0) (hp : pc + 1 = pc') (K : Wq l nw Z EL a0 n0 y B ml ret R h0 Post fs h ce sl pc' L (.long (x / z) :: S)) : Wq l nw Z EL a0 n0 y B ml ret R h0 Post fs h ce sl pc L (.long z :: .long x :: S) :=
  pu (fun h hx hb q => by subst hp; exact XS.ldiv h hx rfl (Jvm.hb hb hd) rfl hz q) K
theorem irem {x z : Int32} (hd : decode B pc = .ok (.irem, 1)) (hz : ¬ z = 0) (hp : pc + 1 = pc') (K : Wq l nw Z EL a0 n0 y B ml ret R h0 Post fs h ce sl pc' L (.int (x % z) :: S)) : Wq l nw Z EL a0 n0 y B ml ret R h0 Post fs h ce sl pc L (.int z :: .int x :: S) := fun p e s m args below meth c T locs vm k C =>
  (K p e s m args below meth c T locs vm k C).st fun u q => by subst hp; exact iremM C.2.2.1 C.1.1 rfl (Jvm.hb C.1.2.1 hd) rfl hz q
theorem i2l {x : Int32} (hd : decode B pc = .ok (.i2l, 1)) (hp : pc + 1 = pc') (K : Wq l nw Z EL a0 n0 y B ml ret R h0 Post fs h ce sl pc' L (.long (x.toInt64) :: S)) : Wq l nw Z EL a0 n0 y B ml ret R h0 Post fs h ce sl pc L (.int x :: S) :=
  pu (fun h hx hb q => by subst hp; exact XS.i2l h hx rfl (Jvm.hb hb hd) rfl q) K
theorem l2i {x : Int64} (hd : decode B pc = .ok (.l2i, 1)) (hp : pc + 1 = pc') (K : Wq l nw Z EL a0 n0 y B ml ret R h0 Post fs h ce sl pc' L (.int (x.toInt32) :: S)) : Wq l nw Z EL a0 n0 y B ml ret R h0 Post fs h ce sl pc L (.long x :: S) :=
  pu (fun h hx hb q => by subst hp; exact XS.l2i h hx rfl (Jvm.hb hb hd) rfl q) K
theorem i2b {x : Int32} (hd : decode B pc = .ok (.i2b, 1)) (hp : pc + 1 = pc') (K : Wq l nw Z EL a0 n0 y B ml ret R h0 Post fs h ce sl pc' L (.int (x.toInt8.toInt32) :: S)) : Wq l nw Z EL a0 n0 y B ml ret R h0 Post fs h ce sl pc L (.int x :: S) :=
  pu (fun h hx hb q => by subst hp; exact XS.i2b h hx rfl (Jvm.hb hb hd) rfl q) K
theorem i2c {x : Int32} (hd : decode B pc = .ok (.i2c, 1)) (hp : pc + 1 = pc') (K : Wq l nw Z EL a0 n0 y B ml ret R h0 Post fs h ce sl pc' L (.int (x.toUInt32.toUInt16.toUInt32.toInt32) :: S)) : Wq l nw Z EL a0 n0 y B ml ret R h0 Post fs h ce sl pc L (.int x :: S) :=
  pu (fun h hx hb q => by subst hp; exact XS.i2c h hx rfl (Jvm.hb hb hd) rfl q) K
theorem i2s {x : Int32} (hd : decode B pc = .ok (.i2s, 1)) (hp : pc + 1 = pc') (K : Wq l nw Z EL a0 n0 y B ml ret R h0 Post fs h ce sl pc' L (.int (x.toInt16.toInt32) :: S)) : Wq l nw Z EL a0 n0 y B ml ret R h0 Post fs h ce sl pc L (.int x :: S) :=
  pu (fun h hx hb q => by subst hp; exact XS.i2s h hx rfl (Jvm.hb hb hd) rfl q) K
theorem ineg {x : Int32} (hd : decode B pc = .ok (.ineg, 1)) (hp : pc + 1 = pc') (K : Wq l nw Z EL a0 n0 y B ml ret R h0 Post fs h ce sl pc' L (.int (-x) :: S)) : Wq l nw Z EL a0 n0 y B ml ret R h0 Post fs h ce sl pc L (.int x :: S) :=
  pu (fun h hx hb q => by subst hp; exact XS.ineg h hx rfl (Jvm.hb hb hd) rfl q) K
theorem lneg {x : Int64} (hd : decode B pc = .ok (.lneg, 1)) (hp : pc + 1 = pc') (K : Wq l nw Z EL a0 n0 y B ml ret R h0 Post fs h ce sl pc' L (.long (-x) :: S)) : Wq l nw Z EL a0 n0 y B ml ret R h0 Post fs h ce sl pc L (.long x :: S) :=
  pu (fun h hx hb q => by subst hp; exact XS.lneg h hx rfl (Jvm.hb hb hd) rfl q) K
theorem lcmp {x z : Int64} (hd : decode B pc = .ok (.lcmp, 1)) (hp : pc + 1 = pc') (K : Wq l nw Z EL a0 n0 y B ml ret R h0 Post fs h ce sl pc' L (.int (lcmpW x z) :: S)) : Wq l nw Z EL a0 n0 y B ml ret R h0 Post fs h ce sl pc L (.long z :: .long x :: S) :=
  pu (fun h hx hb q => by subst hp; exact XS.lcmp h hx rfl (Jvm.hb hb hd) rfl q) K
theorem iinc {j : Nat} {i : Int} {x v : Int32} {L' : Array Slot} (hd : decode B pc = .ok (.iinc j i, 3)) (hl : L[j]? = some (.val (.int x))) (hv : x + Int32.ofInt i = v) (hl' : storeLocals L j (.int v) = some L') (hp : pc + 3 = pc') (K : Wq l nw Z EL a0 n0 y B ml ret R h0 Post fs h ce sl pc' L' S) : Wq l nw Z EL a0 n0 y B ml ret R h0 Post fs h ce sl pc L S :=
  pu (fun h hx hb q => by subst hp hv; exact XS.iinc h hx rfl (Jvm.hb hb hd) hl hl' q) K
theorem dup {v : Value} (hd : decode B pc = .ok (.dup, 1)) (hc : v.category = 1) (hp : pc + 1 = pc') (K : Wq l nw Z EL a0 n0 y B ml ret R h0 Post fs h ce sl pc' L (v :: v :: S)) : Wq l nw Z EL a0 n0 y B ml ret R h0 Post fs h ce sl pc L (v :: S) :=
  pu (fun h hx hb q => by subst hp; exact XS.dup h hx rfl (Jvm.hb hb hd) rfl hc q) K
theorem pop {v : Value} (hd : decode B pc = .ok (.pop, 1)) (hc : v.category = 1) (hp : pc + 1 = pc') (K : Wq l nw Z EL a0 n0 y B ml ret R h0 Post fs h ce sl pc' L S) : Wq l nw Z EL a0 n0 y B ml ret R h0 Post fs h ce sl pc L (v :: S) :=
  pu (fun h hx hb q => by subst hp; exact XS.pop h hx rfl (Jvm.hb hb hd) rfl hc q) K
theorem dup_x1 {v w : Value} (hd : decode B pc = .ok (.dup_x1, 1)) (hc : v.category = 1) (hc2 : w.category = 1) (hp : pc + 1 = pc') (K : Wq l nw Z EL a0 n0 y B ml ret R h0 Post fs h ce sl pc' L (v :: w :: v :: S)) : Wq l nw Z EL a0 n0 y B ml ret R h0 Post fs h ce sl pc L (v :: w :: S) :=
  pu (fun h hx hb q => by subst hp; exact XS.dupX1 h hx rfl (Jvm.hb hb hd) rfl hc hc2 q) K
theorem i2d {x : Int32} (hd : decode B pc = .ok (.i2d, 1)) (hp : pc + 1 = pc') (K : Wq l nw Z EL a0 n0 y B ml ret R h0 Post fs h ce sl pc' L (.double (FP.i2d x) :: S)) : Wq l nw Z EL a0 n0 y B ml ret R h0 Post fs h ce sl pc L (.int x :: S) :=
  pu (fun h hx hb q => by subst hp; exact XS.i2dS h hx rfl (Jvm.hb hb hd) rfl rfl q) K
theorem l2d {x : Int64} (hd : decode B pc = .ok (.l2d, 1)) (hp : pc + 1 = pc') (K : Wq l nw Z EL a0 n0 y B ml ret R h0 Post fs h ce sl pc' L (.double (FP.l2d x) :: S)) : Wq l nw Z EL a0 n0 y B ml ret R h0 Post fs h ce sl pc L (.long x :: S) :=
  pu (fun h hx hb q => by subst hp; exact XS.l2dS h hx rfl (Jvm.hb hb hd) rfl rfl q) K
theorem dcmp {o : CmpOp} {x z : UInt64} (hd : decode B pc = .ok (.dcmp o, 1)) (hp : pc + 1 = pc') (K : Wq l nw Z EL a0 n0 y B ml ret R h0 Post fs h ce sl pc' L (.int (cmpValue (FP.dcmp x z) o) :: S)) : Wq l nw Z EL a0 n0 y B ml ret R h0 Post fs h ce sl pc L (.double z :: .double x :: S) :=
  pu (fun h hx hb q => by subst hp; exact XS.dcmpS h hx rfl (Jvm.hb hb hd) rfl rfl q) K
theorem dconst0 {v : UInt64} (hd : decode B pc = .ok (.dconst 0, 1)) (hv : FP.dconst0 = v) (hp : pc + 1 = pc') (K : Wq l nw Z EL a0 n0 y B ml ret R h0 Post fs h ce sl pc' L (.double v :: S)) : Wq l nw Z EL a0 n0 y B ml ret R h0 Post fs h ce sl pc L S :=
  pu (fun h hx hb q => by subst hp; exact XS.dconst0 h hx rfl (Jvm.hb hb hd) hv q) K
theorem dconst1 {v : UInt64} (hd : decode B pc = .ok (.dconst 1, 1)) (hv : FP.dconst1 = v) (hp : pc + 1 = pc') (K : Wq l nw Z EL a0 n0 y B ml ret R h0 Post fs h ce sl pc' L (.double v :: S)) : Wq l nw Z EL a0 n0 y B ml ret R h0 Post fs h ce sl pc L S :=
  pu (fun h hx hb q => by subst hp; exact XS.dconst1 h hx rfl (Jvm.hb hb hd) hv q) K
theorem dadd {x z v : UInt64} (hd : decode B pc = .ok (.dadd, 1)) (hn : Jvm.Free.Fl.NoNaN64 (FP.dadd x z)) (hv : FP.dadd x z = v) (hp : pc + 1 = pc') (K : Wq l nw Z EL a0 n0 y B ml ret R h0 Post fs h ce sl pc' L (.double v :: S)) : Wq l nw Z EL a0 n0 y B ml ret R h0 Post fs h ce sl pc L (.double z :: .double x :: S) :=
  pu (fun h hx hb q => by subst hp; exact XS.daddS h hx rfl (Jvm.hb hb hd) rfl hn hv q) K
theorem dsub {x z v : UInt64} (hd : decode B pc = .ok (.dsub, 1)) (hn : Jvm.Free.Fl.NoNaN64 (FP.dsub x z)) (hv : FP.dsub x z = v) (hp : pc + 1 = pc') (K : Wq l nw Z EL a0 n0 y B ml ret R h0 Post fs h ce sl pc' L (.double v :: S)) : Wq l nw Z EL a0 n0 y B ml ret R h0 Post fs h ce sl pc L (.double z :: .double x :: S) :=
  pu (fun h hx hb q => by subst hp; exact XS.dsubS h hx rfl (Jvm.hb hb hd) rfl hn hv q) K
theorem dmul {x z v : UInt64} (hd : decode B pc = .ok (.dmul, 1)) (hn : Jvm.Free.Fl.NoNaN64 (FP.dmul x z)) (hv : FP.dmul x z = v) (hp : pc + 1 = pc') (K : Wq l nw Z EL a0 n0 y B ml ret R h0 Post fs h ce sl pc' L (.double v :: S)) : Wq l nw Z EL a0 n0 y B ml ret R h0 Post fs h ce sl pc L (.double z :: .double x :: S) :=
  pu (fun h hx hb q => by subst hp; exact XS.dmulS h hx rfl (Jvm.hb hb hd) rfl hn hv q) K
theorem ddiv {x z v : UInt64} (hd : decode B pc = .ok (.ddiv, 1)) (hn : Jvm.Free.Fl.NoNaN64 (FP.ddiv x z)) (hv : FP.ddiv x z = v) (hp : pc + 1 = pc') (K : Wq l nw Z EL a0 n0 y B ml ret R h0 Post fs h ce sl pc' L (.double v :: S)) : Wq l nw Z EL a0 n0 y B ml ret R h0 Post fs h ce sl pc L (.double z :: .double x :: S) :=
  pu (fun h hx hb q => by subst hp; exact XS.ddivS h hx rfl (Jvm.hb hb hd) rfl hn hv q) K
theorem goto {o : Int} (hd : decode B pc = .ok (.goto o, 3)) (ho : 0 ≤ (pc : Int) + o) (hp : ((pc : Int) + o).toNat = pc') (K : Wq l nw Z EL a0 n0 y B ml ret R h0 Post fs h ce sl pc' L S) : Wq l nw Z EL a0 n0 y B ml ret R h0 Post fs h ce sl pc L S :=
  pu (fun h hx hb q => XS.goto h hx rfl (pc0 := pc) rfl (Jvm.hb hb hd) ho hp q) K
def rel (cd : ClassFile.Cond) (x z : Int32) : Prop := match cd with
  | .eq => x = z
  | .ne => ¬ x = z
  | .lt => x < z
  | .ge => ¬ x < z
  | .gt => z < x
  | .le => ¬ z < x
def relN (cd : ClassFile.Cond) (x z : Int32) : Prop := match cd with
  | .eq => ¬ x = z
  | .ne => x = z
  | .lt => ¬ x < z
  | .ge => x < z
  | .gt => ¬ z < x
  | .le => z < x
theorem rel_t {cd : ClassFile.Cond} {x z : Int32} (h : rel cd x z) : if_icmp.holds cd x z = true := by
  cases cd
  · exact (teq h).1
  · exact (feq h).2
  · exact (tlt h).1
  · exact (flt h).2.1
  · exact (tlt h).2.2.1
  · exact (flt h).2.2.2
theorem rel_f {cd : ClassFile.Cond} {x z : Int32} (h : relN cd x z) : if_icmp.holds cd x z = false := by
  cases cd
  · exact (feq h).1
  · exact (teq h).2
  · exact (flt h).1
  · exact (tlt h).2.1
  · exact (flt h).2.2.1
  · exact (tlt h).2.2.2
theorem rel_or (cd : ClassFile.Cond) (x z : Int32) : rel cd x z ∨ relN cd x z := by
  cases cd <;> simp only [rel, relN] <;> first | exact Decidable.em _ | exact (Decidable.em _).symm
theorem icmpT {cd : ClassFile.Cond} {o : Int} {x z : Int32} (hd : decode B pc = .ok (.if_icmp cd o, 3)) (hc : rel cd x z) (ho : 0 ≤ (pc : Int) + o) (hp : ((pc : Int) + o).toNat = pc') (K : Wq l nw Z EL a0 n0 y B ml ret R h0 Post fs h ce sl pc' L S) : Wq l nw Z EL a0 n0 y B ml ret R h0 Post fs h ce sl pc L (.int z :: .int x :: S) :=
  pu (fun h hx hb q => XS.icmpYes h hx rfl (pc0 := pc) rfl (Jvm.hb hb hd) rfl (rel_t hc) ho hp q) K
theorem icmpF {cd : ClassFile.Cond} {o : Int} {x z : Int32} (hd : decode B pc = .ok (.if_icmp cd o, 3)) (hc : relN cd x z) (hp : pc + 3 = pc') (K : Wq l nw Z EL a0 n0 y B ml ret R h0 Post fs h ce sl pc' L S) : Wq l nw Z EL a0 n0 y B ml ret R h0 Post fs h ce sl pc L (.int z :: .int x :: S) :=
  pu (fun h hx hb q => by subst hp; exact XS.icmpNo h hx rfl (Jvm.hb hb hd) rfl (rel_f hc) q) K
theorem icmp {cd : ClassFile.Cond} {o : Int} {x z : Int32} {pcF : Nat} (hd : decode B pc = .ok (.if_icmp cd o, 3)) (ho : 0 ≤ (pc : Int) + o) (hp : ((pc : Int) + o).toNat = pc') (hp2 : pc + 3 = pcF) (K : rel cd x z → Wq l nw Z EL a0 n0 y B ml ret R h0 Post fs h ce sl pc' L S) (K2 : relN cd x z → Wq l nw Z EL a0 n0 y B ml ret R h0 Post fs h ce sl pcF L S) : Wq l nw Z EL a0 n0 y B ml ret R h0 Post fs h ce sl pc L (.int z :: .int x :: S) :=
  (rel_or cd x z).elim (fun q => icmpT hd q ho hp (K q)) (fun q => icmpF hd q hp2 (K2 q))
theorem ifT {cd : ClassFile.Cond} {o : Int} {x : Int32} (hd : decode B pc = .ok (.ifCond cd o, 3)) (hc : rel cd x 0) (ho : 0 ≤ (pc : Int) + o) (hp : ((pc : Int) + o).toNat = pc') (K : Wq l nw Z EL a0 n0 y B ml ret R h0 Post fs h ce sl pc' L S) : Wq l nw Z EL a0 n0 y B ml ret R h0 Post fs h ce sl pc L (.int x :: S) :=
  pu (fun h hx hb q => XS.ifYes h hx rfl (pc0 := pc) rfl (Jvm.hb hb hd) rfl ((if0 _ _).trans (rel_t hc)) ho hp q) K
theorem ifF {cd : ClassFile.Cond} {o : Int} {x : Int32} (hd : decode B pc = .ok (.ifCond cd o, 3)) (hc : relN cd x 0) (hp : pc + 3 = pc') (K : Wq l nw Z EL a0 n0 y B ml ret R h0 Post fs h ce sl pc' L S) : Wq l nw Z EL a0 n0 y B ml ret R h0 Post fs h ce sl pc L (.int x :: S) :=
  pu (fun h hx hb q => by subst hp; exact XS.ifNo h hx rfl (Jvm.hb hb hd) rfl ((if0 _ _).trans (rel_f hc)) q) K
theorem ifc {cd : ClassFile.Cond} {o : Int} {x : Int32} {pcF : Nat} (hd : decode B pc = .ok (.ifCond cd o, 3)) (ho : 0 ≤ (pc : Int) + o) (hp : ((pc : Int) + o).toNat = pc') (hp2 : pc + 3 = pcF) (K : rel cd x 0 → Wq l nw Z EL a0 n0 y B ml ret R h0 Post fs h ce sl pc' L S) (K2 : relN cd x 0 → Wq l nw Z EL a0 n0 y B ml ret R h0 Post fs h ce sl pcF L S) : Wq l nw Z EL a0 n0 y B ml ret R h0 Post fs h ce sl pc L (.int x :: S) :=
  (rel_or cd x 0).elim (fun q => ifT hd q ho hp (K q)) (fun q => ifF hd q hp2 (K2 q))
theorem ifnullT {o : Int} (hd : decode B pc = .ok (.ifnull o, 3)) (ho : 0 ≤ (pc : Int) + o) (hp : ((pc : Int) + o).toNat = pc') (K : Wq l nw Z EL a0 n0 y B ml ret R h0 Post fs h ce sl pc' L S) : Wq l nw Z EL a0 n0 y B ml ret R h0 Post fs h ce sl pc L (.null :: S) :=
  pu (fun h hx hb q => XS.ifnullYes h hx rfl (pc0 := pc) rfl (Jvm.hb hb hd) rfl ho hp q) K
theorem ifnullF {o : Int} {a : Addr} (hd : decode B pc = .ok (.ifnull o, 3)) (hp : pc + 3 = pc') (K : Wq l nw Z EL a0 n0 y B ml ret R h0 Post fs h ce sl pc' L S) : Wq l nw Z EL a0 n0 y B ml ret R h0 Post fs h ce sl pc L (.ref a :: S) :=
  pu (fun h hx hb q => by subst hp; exact XS.ifnullNo h hx rfl (Jvm.hb hb hd) rfl q) K
theorem ifnonnullT {o : Int} {a : Addr} (hd : decode B pc = .ok (.ifnonnull o, 3)) (ho : 0 ≤ (pc : Int) + o) (hp : ((pc : Int) + o).toNat = pc') (K : Wq l nw Z EL a0 n0 y B ml ret R h0 Post fs h ce sl pc' L S) : Wq l nw Z EL a0 n0 y B ml ret R h0 Post fs h ce sl pc L (.ref a :: S) :=
  pu (fun h hx hb q => XS.ifnonnullYes h hx rfl (pc0 := pc) rfl (Jvm.hb hb hd) rfl ho hp q) K
theorem ifnonnullF {o : Int} (hd : decode B pc = .ok (.ifnonnull o, 3)) (hp : pc + 3 = pc') (K : Wq l nw Z EL a0 n0 y B ml ret R h0 Post fs h ce sl pc' L S) : Wq l nw Z EL a0 n0 y B ml ret R h0 Post fs h ce sl pc L (.null :: S) :=
  pu (fun h hx hb q => by subst hp; exact XS.ifnonnullNo h hx rfl (Jvm.hb hb hd) rfl q) K
/-- two references compared: same or not -/
theorem acmp {cd : ACond} {o : Int} {v w : Value} (same : Bool) (hd : decode B pc = .ok (.if_acmp cd o, 3)) (h1 : v.isRef = true) (h2 : w.isRef = true) (hc : decide (v = w) = same) (ho : 0 ≤ (pc : Int) + o) (hp : pc' = if acV cd same = true then ((pc : Int) + o).toNat else pc + 3) (K : Wq l nw Z EL a0 n0 y B ml ret R h0 Post fs h ce sl pc' L S) : Wq l nw Z EL a0 n0 y B ml ret R h0 Post fs h ce sl pc L (w :: v :: S) := fun p e s m args below meth c T locs vm k C =>
  (K p e s m args below meth c T locs vm k C).st fun u q => Jvm.RoadKit.acmp (g := mkF m pc L (w :: v :: S)) C.2.2.1 C.1.1 rfl h1 h2 (pc0 := pc) (pc' := pc') (same := same) rfl (Jvm.hb C.1.2.1 hd) rfl hc ho hp q
/-- a step that hands back a state with the same heap -/
theorem same {L' : Array Slot} {S' : List Value} (st : ∀ {p : Program} {e : Env} {s : State} {m : MethodId} {args : Array Value} {below : List Frame} {meth : Method} {c : Code} {T : State} {locs : List Loc}, p.tables.exec = Jvm.exec → c.code = B → s.vm.findClass y.cls = some m.cls → Z.Warmed39 s.vm → (∀ d ∈ tables_1, d.before a0 Z = true) → T.heap = h → c.maxLocals = ml →
      Stand p l e R s m args below meth c T locs ce sl → ∃ T', Stand p l e R s m args below meth c T' locs ce sl ∧ T'.heap = h ∧ ∀ u, Steps p.tables e below (T'.setTop (mkF m pc' L' S')) u → Steps p.tables e below (T.setTop (mkF m pc L S)) u)
    (K : Wq l nw Z EL a0 n0 y B ml ret R h0 Post fs h ce sl pc' L' S') : Wq l nw Z EL a0 n0 y B ml ret R h0 Post fs h ce sl pc L S := fun p e s m args below meth c T locs vm k C => by
  obtain ⟨⟨hx, hby, hml, hret, hlk, hnm, hown, hh0⟩, ⟨hZ, hw, hEL, hnw⟩, X, hT, ⟨hN, hO⟩, ⟨hS, hk⟩, hC, hF⟩ := C
  obtain ⟨T', X', e', q⟩ := st (s := s.setVm vm) hx hby hown hZ hw hT hml X
  exact (K p e s m args below meth c T' locs vm k ⟨⟨hx, hby, hml, hret, hlk, hnm, hown, hh0⟩, ⟨hZ, hw, hEL, hnw⟩, X', e', ⟨hN, hO⟩, ⟨hS, hk⟩, hC, hF⟩).st q
/-- a step that makes new cells -/
theorem grow {L' : Array Slot} {S' : List Value} {ce' sl' : Nat} {P : Heap → Prop} (st : ∀ {p : Program} {e : Env} {s : State} {m : MethodId} {args : Array Value} {below : List Frame} {meth : Method} {c : Code} {T : State} {locs : List Loc}, p.tables.exec = Jvm.exec → c.code = B → s.vm.findClass y.cls = some m.cls → Z.Warmed39 s.vm → (∀ d ∈ tables_1, d.before a0 Z = true) → T.heap = h → c.maxLocals = ml →
      Stand p l e R s m args below meth c T locs ce sl → ∃ T' h', Stand p l e R s m args below meth c T' locs ce' sl' ∧ T'.heap = h' ∧ Ext h h' ∧ P h' ∧ ∀ u, Steps p.tables e below (T'.setTop (mkF m pc' L' S')) u → Steps p.tables e below (T.setTop (mkF m pc L S)) u)
    {fs' : List Addr} (hfs : ∀ x ∈ fs', x ∈ fs ∨ x = h.size) (hlt : ∀ h', Ext h h' → P h' → h.size < h'.size) (K : ∀ h', Ext h h' → P h' → Wq l nw Z EL a0 n0 y B ml ret R h0 Post fs' h' ce' sl' pc' L' S') : Wq l nw Z EL a0 n0 y B ml ret R h0 Post fs h ce sl pc L S := fun p e s m args below meth c T locs vm k C => by
  obtain ⟨⟨hx, hby, hml, hret, hlk, hnm, hown, hh0⟩, ⟨hZ, hw, hEL, hnw⟩, X, hT, ⟨hN, hO⟩, ⟨hS, hk⟩, hC, hF⟩ := C
  obtain ⟨T', h', X', e', E, hP, q⟩ := st (s := s.setVm vm) hx hby hown hZ hw hT hml X
  have hC' := hC.trans (CHr.ext E hC.1)
  refine (K h' E hP p e s m args below meth c T' locs vm k ⟨⟨hx, hby, hml, hret, hlk, hnm, hown, hh0⟩, ⟨hZ, hw, hEL, hnw⟩, X', e', ⟨hN, hO.ext E⟩, ⟨hS, Nat.le_trans hk E.1⟩, hC', fun x q => ?_⟩).st q
  rcases hfs x q with r | rfl
  · exact ⟨(hF x r).1, Nat.lt_of_lt_of_le (hF x r).2.1 E.1, Safe.ext E hC.1 (hF x r).2.2⟩
  · exact ⟨by have := hO.2.1; rw [hO.1] at this; exact this, hlt h' E hP, Safe.ext E hC.1 (Safe.new (Nat.le_refl _))⟩
/-- a step that writes one slot -/
theorem wrote {S' : List Value} {a : Addr} {j : Nat} {v : Value} (st : ∀ {p : Program} {e : Env} {s : State} {m : MethodId} {args : Array Value} {below : List Frame} {meth : Method} {c : Code} {T : State} {locs : List Loc}, p.tables.exec = Jvm.exec → c.code = B → s.vm.findClass y.cls = some m.cls → meth.name = y.name → Z.Warmed39 s.vm → (∀ d ∈ tables_1, d.before a0 Z = true) → T.heap = h →
      Stand p l e R s m args below meth c T locs ce sl → ∃ T' h', Stand p l e R s m args below meth c T' (locs ++ [⟨a, j⟩]) ce sl ∧ T'.heap = h' ∧ Wr h h' a j v ∧ ∀ u, Steps p.tables e below (T'.setTop (mkF m pc' L S')) u → Steps p.tables e below (T.setTop (mkF m pc L S)) u)
    (hf : a ∈ fs) (K : ∀ h', Wr h h' a j v → Wq l nw Z EL a0 n0 y B ml ret R h0 Post fs h' ce sl pc' L S') : Wq l nw Z EL a0 n0 y B ml ret R h0 Post fs h ce sl pc L S := fun p e s m args below meth c T locs vm k C => by
  obtain ⟨⟨hx, hby, hml, hret, hlk, hnm, hown, hh0⟩, ⟨hZ, hw, hEL, hnw⟩, X, hT, ⟨hN, hO⟩, ⟨hS, hk⟩, hC, hF⟩ := C
  obtain ⟨T', h', X', e', W', q⟩ := st (s := s.setVm vm) hx hby hown hnm hZ hw hT X
  have hsf := (hF a hf).2.2
  have hsz : h'.size = h.size := W'.size
  exact (K h' W' p e s m args below meth c T' _ vm k ⟨⟨hx, hby, hml, hret, hlk, hnm, hown, hh0⟩, ⟨hZ, hw, hEL, hnw⟩, X', e', ⟨Fr.snoc X' hN (hF a hf).1, hO.wr W' (hF a hf).1⟩, ⟨hS, (by rw [hsz]; exact hk)⟩, hC.trans (CHr.wr W' hsf hC.1), fun x r => ⟨(hF x r).1, by rw [hsz]; exact (hF x r).2.1, Safe.wr W' hsf hC.1 (hF x r).2.2⟩⟩).st q
theorem wat {d : Jvm.Cond} (hw : ∀ d ∈ tables_1, d.before a0 Z = true) {i : Nat} (h : tables_1[i]? = some d) : d.before a0 Z = true := hw _ (List.mem_of_getElem? h)
theorem getfield {i ix : Nat} {C n d : String} {a : Addr} {v : Value} (hd : decode B pc = .ok (.getfield ix, 3)) (w : tables_1[i]? = some (.fieldLink y.cls ix C n d)) (F : Fld Z h a C n d v) (hp : pc + 3 = pc') (K : Wq l nw Z EL a0 n0 y B ml ret R h0 Post fs h ce sl pc' L (v :: S)) : Wq l nw Z EL a0 n0 y B ml ret R h0 Post fs h ce sl pc L (.ref a :: S) :=
  same (fun hx hby hown hZ hw hT _ X => by subst hp; exact getF X hx hZ hown (host := "") (Or.inl (wat hw w)) Via.refl hT F (g := mkF _ pc L (.ref a :: S)) rfl rfl (Jvm.hb hby hd)) K
theorem getstatic {i ix : Nat} {C n d : String} {v : Value} (hd : decode B pc = .ok (.getstatic ix, 3)) (w : tables_1[i]? = some (.fieldLink y.cls ix C n d)) (F : Sta Z h C n d v) (hp : pc + 3 = pc') (K : Wq l nw Z EL a0 n0 y B ml ret R h0 Post fs h ce sl pc' L (v :: S)) : Wq l nw Z EL a0 n0 y B ml ret R h0 Post fs h ce sl pc L S :=
  same (fun hx hby hown hZ hw hT _ X => by subst hp; exact getS2 X hx hZ hown (host := "") (Or.inl (wat hw w)) Via.refl hT F (g := mkF _ pc L S) rfl (Jvm.hb hby hd)) K
theorem putfield {i i2 i3 ix kk : Nat} {C O n d : String} {ty : FieldType} {a : Addr} {v v' old : Value} (hd : decode B pc = .ok (.putfield ix, 3)) (w : tables_1[i]? = some (.fieldLink y.cls ix O n d))
    (w2 : tables_1[i2]? = some (.lays C O n d) ∨ (tables_1[i2]? = some (.laysFinal C O n d) ∧ y.cls = O ∧ y.name = "<init>")) (w3 : tables_1[i3]? = some (.instantiable C kk))
    (F : Fld Z h a O n d old) (E : Exa Z h a C) (hty : parseFieldDescriptor d = some ty) (hn : narrow ty v = v') (hfit : fits ty v' = true) (hf : a ∈ fs) (hp : pc + 3 = pc')
    (K : ∀ h', Wr h h' a (Jvm.RoadKit.slotOf Z O n d) v' → Wq l nw Z EL a0 n0 y B ml ret R h0 Post fs h' ce sl pc' L S) : Wq l nw Z EL a0 n0 y B ml ret R h0 Post fs h ce sl pc L (v :: .ref a :: S) :=
  wrote (fun hx hby hown hnm hZ hw hT X => by subst hp; exact putFN X hx hZ hown (wat hw w) Via.refl hT F E (w2.imp (fun q => wat hw q) fun q => ⟨wat hw q.1, q.2.1, hnm.trans q.2.2⟩) (wat hw w3) hty hn hfit (g := mkF _ pc L (v :: .ref a :: S)) rfl rfl (Jvm.hb hby hd))
    hf K
theorem new {i i2 i3 ix n : Nat} {C : String} (hd : decode B pc = .ok (.new ix, 3)) (w : tables_1[i]? = some (.classLink y.cls ix C)) (w2 : tables_1[i2]? = some (.instantiable C n)) (w3 : tables_1[i3]? = some (.initialized C)) (hc : ce + 1 ≤ R.cells) (hs : sl + n ≤ R.slots) (hp : pc + 3 = pc')
    (K : ∀ h' a, a = h.size → Ext h h' → Exa Z h' a C → (∀ {O nm d : String} {ty : FieldType}, Laid Z a0 C O nm d → parseFieldDescriptor d = some ty → Fld Z h' a O nm d (defaultValue ty)) → Wq l nw Z EL a0 n0 y B ml ret R h0 Post (a :: fs) h' (ce + 1) (sl + n) pc' L (.ref a :: S)) : Wq l nw Z EL a0 n0 y B ml ret R h0 Post fs h ce sl pc L S :=
  grow (P := fun h' => Exa Z h' h.size C ∧ (∀ {O nm d : String} {ty : FieldType}, Laid Z a0 C O nm d → parseFieldDescriptor d = some ty → Fld Z h' h.size O nm d (defaultValue ty))) (fun hx hby hown hZ hw hT _ X => by
    subst hp
    obtain ⟨T', h', X', e', E, A, D, -, st⟩ := newO X hx hZ hown (wat hw w) (wat hw w2) (wat hw w3) hT (g := mkF _ pc L S) rfl (Jvm.hb hby hd) hc hs
    exact ⟨T', h', X', e', E, ⟨A, D⟩, st⟩) (fs' := h.size :: fs) (fun x q => (List.mem_cons.mp q).symm) (fun h' _ q => q.1.lt) (fun h' E q => K h' _ rfl E q.1 q.2)
theorem newarray {i cap : Nat} {aty : ArrayType} {ty : FieldType} {z : Int32} (hd : decode B pc = .ok (.newarray aty, 2)) (hty : newarray.typeOf aty = ty) (w : tables_1[i]? = some (.arrayClass ty)) (hz : ¬ z < 0) (hcap : z.toNatClampNeg ≤ cap) (hb8 : cap * 8 ≤ 536870912) (hc : ce + 1 ≤ R.cells) (hs : sl + cap ≤ R.slots) (hp : pc + 2 = pc')
    (K : ∀ h' a kc, a = h.size → Ext h h' → Arv Z h' a kc ty z [] (defaultValue ty) → Wq l nw Z EL a0 n0 y B ml ret R h0 Post (a :: fs) h' (ce + 1) (sl + cap) pc' L (.ref a :: S)) : Wq l nw Z EL a0 n0 y B ml ret R h0 Post fs h ce sl pc L (.int z :: S) :=
  grow (P := fun h' => ∃ kc, Arv Z h' h.size kc ty z [] (defaultValue ty)) (fun hx hby hown hZ hw hT _ X => by
    subst hp hty
    obtain ⟨T', h', kc, X', e', E, A, st⟩ := newP X hx hZ (wat hw w) hT (g := mkF _ pc L (.int z :: S)) rfl (Jvm.hb hby hd) rfl hz hcap hb8 hc hs
    exact ⟨T', h', X', e', E, ⟨kc, Arv.new A hz⟩, st⟩) (fs' := h.size :: fs) (fun x q => (List.mem_cons.mp q).symm) (fun h' _ q => q.elim fun kc r => r.lt) (fun h' E q => q.elim fun kc r => K h' _ kc rfl E r)
theorem arraylength {a : Addr} {kc : ClassId} {ty : FieldType} {z : Int32} {vs : List Value} {dv : Value} (hd : decode B pc = .ok (.arraylength, 1)) (F : Arv Z h a kc ty z vs dv) (hp : pc + 1 = pc') (K : Wq l nw Z EL a0 n0 y B ml ret R h0 Post fs h ce sl pc' L (.int z :: S)) : Wq l nw Z EL a0 n0 y B ml ret R h0 Post fs h ce sl pc L (.ref a :: S) :=
  same (fun {p e s m args below meth c T locs} hx hby hown hZ hw hT _ X => by
    subst hp
    obtain ⟨cl, A, -, hsz, hz, -⟩ := F
    refine ⟨T, X, hT, fun u q => X.arraylength hx (by rw [hT]; exact A.1) (State.isArrayOf_alike hZ.alike A.2.1) (g := mkF _ pc L (.ref a :: S)) rfl rfl (Jvm.hb hby hd) u ?_⟩
    rw [len_of hsz hz]; exact q) K
theorem iaload {a : Addr} {kc : ClassId} {z j : Int32} {vs : List Value} {dv v : Value} (hd : decode B pc = .ok (.iaload, 1)) (F : Arv Z h a kc .int z vs dv) (hj : ¬ j < 0 ∧ j < z) (hv : vs.getD j.toNatClampNeg dv = v) (hp : pc + 1 = pc') (K : Wq l nw Z EL a0 n0 y B ml ret R h0 Post fs h ce sl pc' L (v :: S)) : Wq l nw Z EL a0 n0 y B ml ret R h0 Post fs h ce sl pc L (.int j :: .ref a :: S) :=
  same (fun {p e s m args below meth c T locs} hx hby hown hZ hw hT _ X => by
    subst hp
    obtain ⟨cl, A, -, hsz, hz, hH, -⟩ := F
    have hin := inb_of hsz hj
    exact ⟨T, X, hT, fun u q => X.iaload hx (by rw [hT]; exact A.1) (State.isArrayOf_alike hZ.alike A.2.1) A.2.2 hin (hH.at hin hv) (g := mkF _ pc L (.int j :: .ref a :: S)) rfl rfl (Jvm.hb hby hd) u q⟩) K
theorem caload {a : Addr} {kc : ClassId} {z j : Int32} {vs : List Value} {dv v : Value} (hd : decode B pc = .ok (.caload, 1)) (F : Arv Z h a kc .char z vs dv) (hj : ¬ j < 0 ∧ j < z) (hv : vs.getD j.toNatClampNeg dv = v) (hp : pc + 1 = pc') (K : Wq l nw Z EL a0 n0 y B ml ret R h0 Post fs h ce sl pc' L (v :: S)) : Wq l nw Z EL a0 n0 y B ml ret R h0 Post fs h ce sl pc L (.int j :: .ref a :: S) :=
  same (fun {p e s m args below meth c T locs} hx hby hown hZ hw hT _ X => by
    subst hp
    obtain ⟨cl, A, -, hsz, hz, hH, -⟩ := F
    have hin := inb_of hsz hj
    exact ⟨T, X, hT, fun u q => X.caload hx (by rw [hT]; exact A.1) (State.isArrayOf_alike hZ.alike A.2.1) A.2.2 hin (hH.at hin hv) (g := mkF _ pc L (.int j :: .ref a :: S)) rfl rfl (Jvm.hb hby hd) u q⟩) K
theorem baload {a : Addr} {kc : ClassId} {z j : Int32} {vs : List Value} {dv v : Value} (hd : decode B pc = .ok (.baload, 1)) (F : Arv Z h a kc .byte z vs dv) (hj : ¬ j < 0 ∧ j < z) (hv : vs.getD j.toNatClampNeg dv = v) (hp : pc + 1 = pc') (K : Wq l nw Z EL a0 n0 y B ml ret R h0 Post fs h ce sl pc' L (v :: S)) : Wq l nw Z EL a0 n0 y B ml ret R h0 Post fs h ce sl pc L (.int j :: .ref a :: S) :=
  same (fun {p e s m args below meth c T locs} hx hby hown hZ hw hT _ X => by
    subst hp
    obtain ⟨cl, A, -, hsz, hz, hH, -⟩ := F
    have hin := inb_of hsz hj
    exact ⟨T, X, hT, fun u q => X.baloadBytes hx (by rw [hT]; exact A.1) (State.isArrayOf_alike hZ.alike A.2.1) A.2.2 hin (hH.at hin hv) (g := mkF _ pc L (.int j :: .ref a :: S)) rfl rfl (Jvm.hb hby hd) u q⟩) K
theorem laload {a : Addr} {kc : ClassId} {z j : Int32} {vs : List Value} {dv v : Value} (hd : decode B pc = .ok (.laload, 1)) (F : Arv Z h a kc .long z vs dv) (hj : ¬ j < 0 ∧ j < z) (hv : vs.getD j.toNatClampNeg dv = v) (hp : pc + 1 = pc') (K : Wq l nw Z EL a0 n0 y B ml ret R h0 Post fs h ce sl pc' L (v :: S)) : Wq l nw Z EL a0 n0 y B ml ret R h0 Post fs h ce sl pc L (.int j :: .ref a :: S) :=
  same (fun {p e s m args below meth c T locs} hx hby hown hZ hw hT _ X => by
    subst hp
    obtain ⟨cl, A, -, hsz, hz, hH, -⟩ := F
    have hin := inb_of hsz hj
    exact ⟨T, X, hT, fun u q => X.laload hx (by rw [hT]; exact A.1) (State.isArrayOf_alike hZ.alike A.2.1) A.2.2 hin (hH.at hin hv) (g := mkF _ pc L (.int j :: .ref a :: S)) rfl rfl (Jvm.hb hby hd) u q⟩) K
theorem aaload {a : Addr} {kc : ClassId} {ty : FieldType} {z j : Int32} {vs : List Value} {dv v : Value} (hd : decode B pc = .ok (.aaload, 1)) (hty : ty.isReference = true) (F : Arv Z h a kc ty z vs dv) (hj : ¬ j < 0 ∧ j < z) (hv : vs.getD j.toNatClampNeg dv = v) (hp : pc + 1 = pc') (K : Wq l nw Z EL a0 n0 y B ml ret R h0 Post fs h ce sl pc' L (v :: S)) : Wq l nw Z EL a0 n0 y B ml ret R h0 Post fs h ce sl pc L (.int j :: .ref a :: S) :=
  same (fun {p e s m args below meth c T locs} hx hby hown hZ hw hT _ X => by
    subst hp
    obtain ⟨cl, A, -, hsz, hz, hH, -⟩ := F
    have hin := inb_of hsz hj
    exact ⟨T, X, hT, fun u q => X.aaload hx (by rw [hT]; exact A.1) (State.isArrayOf_alike hZ.alike A.2.1) hty A.2.2 hin (hH.at hin hv) (g := mkF _ pc L (.int j :: .ref a :: S)) rfl rfl (Jvm.hb hby hd) u q⟩) K
theorem castore {a : Addr} {kc : ClassId} {z j x : Int32} {vs : List Value} {dv : Value} (hd : decode B pc = .ok (.castore, 1)) (F : Arv Z h a kc .char z vs dv) (hj : ¬ j < 0 ∧ j < z) (hf : a ∈ fs) (hl : j.toNatClampNeg < vs.length) (hp : pc + 1 = pc')
    (K : ∀ h', Wr h h' a j.toNatClampNeg (.int (nar .char x)) → Arv Z h' a kc .char z (vs.set j.toNatClampNeg (.int (nar .char x))) dv → Wq l nw Z EL a0 n0 y B ml ret R h0 Post fs h' ce sl pc' L S) : Wq l nw Z EL a0 n0 y B ml ret R h0 Post fs h ce sl pc L (.int x :: .int j :: .ref a :: S) := by
  obtain ⟨cl, A, q1, hsz, hz, hH, hG⟩ := F
  have hin := inb_of hsz hj
  exact wrote (fun hx hby hown hnm hZ hw hT X => by subst hp; exact stC X hx hZ hT A hin (g := mkF _ pc L (.int x :: .int j :: .ref a :: S)) rfl rfl (Jvm.hb hby hd))
    hf (fun h' W' => K h' W' (Arv.set A q1 hsz hz hH hG (fits_nar_char _) W' _ rfl hl))
theorem bastore {a : Addr} {kc : ClassId} {z j x : Int32} {vs : List Value} {dv : Value} (hd : decode B pc = .ok (.bastore, 1)) (F : Arv Z h a kc .byte z vs dv) (hj : ¬ j < 0 ∧ j < z) (hf : a ∈ fs) (hl : j.toNatClampNeg < vs.length) (hp : pc + 1 = pc')
    (K : ∀ h', Wr h h' a j.toNatClampNeg (.int (nar .byte x)) → Arv Z h' a kc .byte z (vs.set j.toNatClampNeg (.int (nar .byte x))) dv → Wq l nw Z EL a0 n0 y B ml ret R h0 Post fs h' ce sl pc' L S) : Wq l nw Z EL a0 n0 y B ml ret R h0 Post fs h ce sl pc L (.int x :: .int j :: .ref a :: S) := by
  obtain ⟨cl, A, q1, hsz, hz, hH, hG⟩ := F
  have hin := inb_of hsz hj
  exact wrote (fun hx hby hown hnm hZ hw hT X => by subst hp; exact stB X hx hZ hT A hin (g := mkF _ pc L (.int x :: .int j :: .ref a :: S)) rfl rfl (Jvm.hb hby hd))
    hf (fun h' W' => K h' W' (Arv.set A q1 hsz hz hH hG (fits_nar_byte _) W' _ rfl hl))
theorem iastore {a : Addr} {kc : ClassId} {z j x : Int32} {vs : List Value} {dv : Value} (hd : decode B pc = .ok (.iastore, 1)) (F : Arv Z h a kc .int z vs dv) (hj : ¬ j < 0 ∧ j < z) (hf : a ∈ fs) (hl : j.toNatClampNeg < vs.length) (hp : pc + 1 = pc')
    (K : ∀ h', Wr h h' a j.toNatClampNeg (.int x) → Arv Z h' a kc .int z (vs.set j.toNatClampNeg (.int x)) dv → Wq l nw Z EL a0 n0 y B ml ret R h0 Post fs h' ce sl pc' L S) : Wq l nw Z EL a0 n0 y B ml ret R h0 Post fs h ce sl pc L (.int x :: .int j :: .ref a :: S) := by
  obtain ⟨cl, A, q1, hsz, hz, hH, hG⟩ := F
  have hin := inb_of hsz hj
  exact wrote (fun hx hby hown hnm hZ hw hT X => by subst hp; exact stI X hx hZ hT A hin (g := mkF _ pc L (.int x :: .int j :: .ref a :: S)) rfl rfl (Jvm.hb hby hd))
    hf (fun h' W' => K h' W' (Arv.set A q1 hsz hz hH hG (rfl) W' _ rfl hl))
theorem cloneArr {i1 i2 i3 i4 i5 i6 ix Wd cap : Nat} {ad : String} {a : Addr} {kc : ClassId} {ty : FieldType} {z : Int32} {vs : List Value} {dv : Value} (hd : decode B pc = .ok (.invokevirtual ix, 3)) (w1 : tables_1[i1]? = some (.methodLink y.cls ix ⟨ad, "clone", "()Ljava/lang/Object;"⟩)) (w2 : tables_1[i2]? = some (.sameMethod ad "java/lang/Object" "clone" "()Ljava/lang/Object;")) (w3 : tables_1[i3]? = some (.native ⟨"java/lang/Object", "clone", "()Ljava/lang/Object;"⟩)) (w4 : tables_1[i4]? = some (.instanceMethod ⟨"java/lang/Object", "clone", "()Ljava/lang/Object;"⟩)) (w5 : tables_1[i5]? = some (.selects ad ⟨ad, "clone", "()Ljava/lang/Object;"⟩ ⟨"java/lang/Object", "clone", "()Ljava/lang/Object;"⟩)) (w6 : tables_1[i6]? = some (.castable ad "java/lang/Cloneable"))
    (F : Arv Z h a kc ty z vs dv) (E : Exa Z h a ad) (hsz : L.size = ml) (hfr : 1 ≤ R.frames) (hW : (S.map fun v => v.category).sum ≤ Wd) (hl : Wd + 14 ≤ R.locals) (hcap : z.toNatClampNeg ≤ cap) (hc : ce + 1 ≤ R.cells) (hs : sl + cap ≤ R.slots) (hp : pc + 3 = pc')
    (K : ∀ h' r, r = h.size → Ext h h' → Arv Z h' r kc ty z vs dv → Exa Z h' r ad → Wq l nw Z EL a0 n0 y B ml ret R h0 Post (r :: fs) h' (ce + 1) (sl + cap) pc' L (.ref r :: S)) : Wq l nw Z EL a0 n0 y B ml ret R h0 Post fs h ce sl pc L (.ref a :: S) :=
  grow (P := fun h' => Arv Z h' h.size kc ty z vs dv ∧ Exa Z h' h.size ad) (fun hx hby hown hZ hw hT hml X => by
    subst hp
    obtain ⟨T', h', X', e', Ex, A, E', st⟩ := cloneH X hx hZ hown (wat hw w1) (wat hw w2) (wat hw w3) (wat hw w4) (wat hw w5) (wat hw w6) hT F.arh E (g := mkF _ pc L (.ref a :: S)) rfl (hsz.trans hml.symm) rfl (Jvm.hb hby hd) hfr (W := Wd) (by show 2 * 0 + _ ≤ _; omega) hl hcap hc hs
    exact ⟨T', h', X', e', Ex, ⟨A, E'⟩, st⟩) (fs' := h.size :: fs) (fun x q => (List.mem_cons.mp q).symm) (fun h' _ q => q.1.lt) (fun h' Ex q => K h' _ rfl Ex q.1 q.2)
theorem checkcast {i ix : Nat} {C : String} {a : Addr} (hd : decode B pc = .ok (.checkcast ix, 3)) (w : tables_1[i]? = some (.classLink y.cls ix C)) (F : Ins Z h a C true) (hp : pc + 3 = pc') (K : Wq l nw Z EL a0 n0 y B ml ret R h0 Post fs h ce sl pc' L (.ref a :: S)) : Wq l nw Z EL a0 n0 y B ml ret R h0 Post fs h ce sl pc L (.ref a :: S) :=
  same (fun hx hby hown hZ hw hT _ X => by subst hp; exact castY X hx hZ hown (wat hw w) hT F (g := mkF _ pc L (.ref a :: S)) rfl rfl (Jvm.hb hby hd)) K
theorem checkcastNull {ix : Nat} (hd : decode B pc = .ok (.checkcast ix, 3)) (hp : pc + 3 = pc') (K : Wq l nw Z EL a0 n0 y B ml ret R h0 Post fs h ce sl pc' L (.null :: S)) : Wq l nw Z EL a0 n0 y B ml ret R h0 Post fs h ce sl pc L (.null :: S) :=
  same (fun {p e s m args below meth c T locs} hx hby hown hZ hw hT _ X => by subst hp; exact ⟨T, X, hT, X.checkcastNull hx (g := mkF _ pc L (.null :: S)) rfl rfl (Jvm.hb hby hd)⟩) K
theorem instanceofNull {ix : Nat} (hd : decode B pc = .ok (.instanceof ix, 3)) (hp : pc + 3 = pc') (K : Wq l nw Z EL a0 n0 y B ml ret R h0 Post fs h ce sl pc' L (.int 0 :: S)) : Wq l nw Z EL a0 n0 y B ml ret R h0 Post fs h ce sl pc L (.null :: S) :=
  same (fun {p e s m args below meth c T locs} hx hby hown hZ hw hT _ X => by subst hp; exact ⟨T, X, hT, X.instanceofNull hx (g := mkF _ pc L (.null :: S)) rfl rfl (Jvm.hb hby hd)⟩) K
theorem instanceofY {i ix : Nat} {C : String} {a : Addr} (hd : decode B pc = .ok (.instanceof ix, 3)) (w : tables_1[i]? = some (.classLink y.cls ix C)) (F : Ins Z h a C true) (hp : pc + 3 = pc') (K : Wq l nw Z EL a0 n0 y B ml ret R h0 Post fs h ce sl pc' L (.int 1 :: S)) : Wq l nw Z EL a0 n0 y B ml ret R h0 Post fs h ce sl pc L (.ref a :: S) :=
  same (fun hx hby hown hZ hw hT _ X => by subst hp; exact instY X hx hZ hown (wat hw w) hT F (g := mkF _ pc L (.ref a :: S)) rfl rfl (Jvm.hb hby hd)) K
theorem instanceofN {i ix : Nat} {C D : String} {a : Addr} (hd : decode B pc = .ok (.instanceof ix, 3)) (w : tables_1[i]? = some (.classLink y.cls ix C)) (E : Exa Z h a D) (F : ∃ c t, Z.vm.findClass D = some c ∧ Z.vm.findClass C = some t ∧ Z.vm.assignable c t = false) (hp : pc + 3 = pc') (K : Wq l nw Z EL a0 n0 y B ml ret R h0 Post fs h ce sl pc' L (.int 0 :: S)) : Wq l nw Z EL a0 n0 y B ml ret R h0 Post fs h ce sl pc L (.ref a :: S) :=
  same (fun hx hby hown hZ hw hT _ X => by subst hp; exact instNo X hx hZ hown (wat hw w) hT E F (g := mkF _ pc L (.ref a :: S)) rfl rfl (Jvm.hb hby hd)) K
theorem ldcInt {i ix : Nat} {v : Int32} (hd : decode B pc = .ok (.ldc ix, 2)) (w : tables_1[i]? = some (.constant y.cls ix v)) (hp : pc + 2 = pc') (K : Wq l nw Z EL a0 n0 y B ml ret R h0 Post fs h ce sl pc' L (.int v :: S)) : Wq l nw Z EL a0 n0 y B ml ret R h0 Post fs h ce sl pc L S :=
  same (fun {p e s m args below meth c T locs} hx hby hown hZ hw hT _ X => by subst hp; exact ⟨T, X, hT, X.ldcInt hx hown (mvT hZ (wat hw w)) (g := mkF _ pc L S) rfl (Jvm.hb hby hd)⟩) K
theorem ldc2Long {i ix : Nat} {v : Int64} (hd : decode B pc = .ok (.ldc2_w ix, 3)) (w : tables_1[i]? = some (.constantLong y.cls ix v)) (hp : pc + 3 = pc') (K : Wq l nw Z EL a0 n0 y B ml ret R h0 Post fs h ce sl pc' L (.long v :: S)) : Wq l nw Z EL a0 n0 y B ml ret R h0 Post fs h ce sl pc L S :=
  same (fun {p e s m args below meth c T locs} hx hby hown hZ hw hT _ X => by subst hp; exact ⟨T, X, hT, X.ldc2Long hx hown (mvT hZ (wat hw w)) (g := mkF _ pc L S) rfl (Jvm.hb hby hd)⟩) K
theorem ldc2Double {i ix : Nat} {v : UInt64} (hd : decode B pc = .ok (.ldc2_w ix, 3)) (w : tables_1[i]? = some (.constantDouble y.cls ix v)) (hp : pc + 3 = pc') (K : Wq l nw Z EL a0 n0 y B ml ret R h0 Post fs h ce sl pc' L (.double v :: S)) : Wq l nw Z EL a0 n0 y B ml ret R h0 Post fs h ce sl pc L S :=
  same (fun {p e s m args below meth c T locs} hx hby hown hZ hw hT _ X => by subst hp; exact ⟨T, X, hT, X.ldc2DoubleC hx hown (mvT hZ (wat hw w)) (g := mkF _ pc L S) rfl (Jvm.hb hby hd)⟩) K
theorem initObj {i i2 i3 ix Wd : Nat} {a : Addr} (hd : decode B pc = .ok (.invokespecial ix, 3)) (w : tables_1[i]? = some (.methodLink y.cls ix Lib.objectInit)) (w2 : tables_1[i2]? = some (.instanceMethod Lib.objectInit)) (w3 : tables_1[i3]? = some (.code Lib.objectInit object_method_1_code 1 none))
    (hsz : L.size = ml) (hfr : 1 ≤ R.frames) (hW : (S.map fun v => v.category).sum ≤ Wd) (hl : Wd + 12 ≤ R.locals) (hp : pc + 3 = pc') (K : Wq l nw Z EL a0 n0 y B ml ret R h0 Post fs h ce sl pc' L S) : Wq l nw Z EL a0 n0 y B ml ret R h0 Post fs h ce sl pc L (.ref a :: S) :=
  same (fun {p e s m args below meth c T locs} hx hby hown hZ hw hT hml X => by
    subst hp
    exact initO X hx hZ hown (wat hw w) (wat hw w2) (wat hw w3) hT (g := mkF _ pc L (.ref a :: S)) rfl (hsz.trans hml.symm) rfl (Jvm.hb hby hd) hfr (W := Wd) (by show 2 * 0 + _ ≤ _; omega) hl) K
/-- ldc of a String constant that EL names, its text read -/
theorem ldcStr {i ix n : Nat} {text : String} {vs : List Value} {z : Int32} (hd : decode B pc = .ok (.ldc ix, 2)) (w : tables_1[i]? = some (.stringLink y.cls ix text)) (hwS : ∀ d ∈ Bundle.stringAtoms, d ∈ tables_1) (hmem : (y.cls, ix) ∈ EL) (hnn : nw = false)
    (ht : (∀ c ∈ text.toList, c.toNat < 256) ∧ text.toList.map (fun c => Value.int (Jvm.Lit.byteI c.toNat.toUInt16)) = vs) (hz : ¬ z < 0) (hl : z.toNatClampNeg = vs.length) (hn : 4 * text.toList.length ≤ n) (hbig : n ≤ 536870912) (hc : ce + 2 ≤ R.cells) (hs : sl + (n + 4) ≤ R.slots) (hp : pc + 2 = pc')
    (K : ∀ h' a b kc, Ext h h' → Exa Z h' a "java/lang/String" → Fld Z h' a "java/lang/String" "coder" "B" (.int 0) → Fld Z h' a "java/lang/String" "value" "[B" (.ref b) → Arv Z h' b kc .byte z vs (.int 0) → (∀ x ∈ fs, x ≠ a ∧ x ≠ b) → Wq l nw Z EL a0 n0 y B ml ret R h0 Post fs h' (ce + 2) (sl + (n + 4)) pc' L (.ref a :: S)) : Wq l nw Z EL a0 n0 y B ml ret R h0 Post fs h ce sl pc L S := fun p e s m args below meth c T locs vm k C => by
  obtain ⟨⟨hx, hby, hml, hret, hlk, hnm, hown, hh0⟩, ⟨hZ, hw, hEL, hnw⟩, X, hT, ⟨hN, hO⟩, ⟨hS, hk⟩, hC, hF⟩ := C
  subst hp
  obtain ⟨a, T', h', k1, b, kc, X', e', E, hS', hk', hZ', hown', A, Co, Va, Ar, -, -, hC', -, hne, st⟩ := ldcCH X hx hZ hown (wat hw w) (fun d q => hw d (hwS d q)) hT hS hk hEL hmem hC.1 ht hz hl (g := mkF _ pc L S) rfl (Jvm.hb hby hd) hn hbig hc hs
  refine (K h' a b kc E A Co Va Ar (fun x r => hne x (hC'.safe (hF x r).2.1 (hF x r).2.2)) p e s m args below meth c T' locs T'.vm k1 ⟨⟨hx, hby, hml, hret, hlk, hnm, hown', hh0⟩, ⟨hZ', hw, hEL, fun q => by rw [hnn] at q; cases q⟩, X', e', ⟨hN, hO.ext E⟩, ⟨hS', hk'⟩, hC.trans hC', fun x r => ⟨(hF x r).1, Nat.lt_of_lt_of_le (hF x r).2.1 E.1, hC'.safe (hF x r).2.1 (hF x r).2.2⟩⟩).st st
/-- ldc of any String constant, nothing said of its text -/
theorem ldcAny {i ix n : Nat} {text : String} (hd : decode B pc = .ok (.ldc ix, 2)) (w : tables_1[i]? = some (.stringLink y.cls ix text)) (hwS : ∀ d ∈ Bundle.stringAtoms, d ∈ tables_1) (hnn : nw = false)
    (hn : 4 * text.toList.length ≤ n) (hbig : n ≤ 536870912) (hc : ce + 2 ≤ R.cells) (hs : sl + (n + 4) ≤ R.slots) (hp : pc + 2 = pc')
    (K : ∀ h' a, Ext h h' → Wq l nw Z EL a0 n0 y B ml ret R h0 Post fs h' (ce + 2) (sl + (n + 4)) pc' L (.ref a :: S)) : Wq l nw Z EL a0 n0 y B ml ret R h0 Post fs h ce sl pc L S := fun p e s m args below meth c T locs vm k C => by
  obtain ⟨⟨hx, hby, hml, hret, hlk, hnm, hown, hh0⟩, ⟨hZ, hw, hEL, hnw⟩, X, hT, ⟨hN, hO⟩, ⟨hS, hk⟩, hC, hF⟩ := C
  subst hp
  obtain ⟨a, T', h', k1, X', e', E, hS', hk', hZ', hown', hC', -, st⟩ := ldcOH X hx hZ hown (wat hw w) (fun d q => hw d (hwS d q)) hT hS hk hEL hC.1 (g := mkF _ pc L S) rfl (Jvm.hb hby hd) hn hbig hc hs
  refine (K h' a E p e s m args below meth c T' locs T'.vm k1 ⟨⟨hx, hby, hml, hret, hlk, hnm, hown', hh0⟩, ⟨hZ', hw, hEL, fun q => by rw [hnn] at q; cases q⟩, X', e', ⟨hN, hO.ext E⟩, ⟨hS', hk'⟩, hC.trans hC', fun x r => ⟨(hF x r).1, Nat.lt_of_lt_of_le (hF x r).2.1 E.1, hC'.safe (hF x r).2.1 (hF x r).2.2⟩⟩).st st
/-- the end of a walk -/
theorem leaves {v : Option Value} (hv : ret = none → v = none) (hc : ce ≤ R.cells) (hs : sl ≤ R.slots) (hP : Post v h) (st : ∀ {p : Program} {e : Env} {s : State} {m : MethodId} {args : Array Value} {below : List Frame} {meth : Method} {c : Code} {T : State} {locs : List Loc} {fs : List Frame}, p.tables.exec = Jvm.exec → c.code = B → meth.sig.returnType = ret →
      Stand p l e R s m args below meth c T locs ce sl → (∀ (f : JFrame) (acts : List Action), f.method = m → f.locked = none → f.entered = [] → (doReturn e (T.setTop f) acts v).1 = T.setFrames fs) → Steps p.tables e below (T.setTop (mkF m pc L S)) (T.setFrames fs)) : Wq l nw Z EL a0 n0 y B ml ret R h0 Post fs h ce sl pc L S := fun p e s m args below meth c T locs vm k C => by
  obtain ⟨⟨hx, hby, hml, hret, hlk, hnm, hown, hh0⟩, ⟨hZ, hw, hEL, hnw⟩, X, hT, ⟨hN, hO⟩, ⟨hS, hk⟩, hC, hF⟩ := C
  obtain ⟨fs', h1, h2, h3, hEnd⟩ := X.leaveW hS (by rw [hT]; exact hk) (v := v) (fun q => hv (hret.symm.trans q)) hlk
  have hwm : (s.setVm vm).WarmedH T.vm := X.warmed
  refine ⟨T.setFrames fs', .returned v, st hx hby hret X h1, h2, h3, v, locs, rfl, ?_, ⟨hN, ?_⟩, ?_, ⟨hEnd.1, hEnd.2.1, hEnd.2.2.1, hEnd.2.2.2.mono hc hs⟩, fun q => ?_⟩
  · show Post v T.heap
    rw [hT]; exact hP
  · show Old Z n0 T.heap
    rw [hT]; exact hO
  · show CHr Z EL s.vm h0 T.vm T.heap
    rw [hT]; exact hC.trans (CHv.at X hZ hEL hC.1)
  · show s.WarmedH T.vm
    obtain ⟨q1, -⟩ := hnw q
    subst q1; exact hwm
theorem retV (hd : decode B pc = .ok (.return_, 1)) (hr : ret = none) (hc : ce ≤ R.cells) (hs : sl ≤ R.slots) (hP : Post none h) : Wq l nw Z EL a0 n0 y B ml ret R h0 Post fs h ce sl pc L [] :=
  leaves (fun _ => rfl) hc hs hP (fun hx hby hret X hl => X.returnOut hx (hret.trans hr) (Jvm.hb hby hd) hl)
theorem retA {v : Value} {t : FieldType} (hd : decode B pc = .ok (.areturn, 1)) (hr : ret = some t) (ht : t.isReference = true) (hv : v.isRef = true) (hc : ce ≤ R.cells) (hs : sl ≤ R.slots) (hP : Post (some v) h) : Wq l nw Z EL a0 n0 y B ml ret R h0 Post fs h ce sl pc L (v :: S) :=
  leaves (fun q => by rw [hr] at q; cases q) hc hs hP (fun hx hby hret X hl => retOut X hx (hret.trans hr) (by rcases ref_cases hv with rfl | ⟨q, rfl⟩ <;> cases t <;> rfl) (Or.inr (Or.inr (Or.inr (Or.inr ⟨rfl, ht, hv⟩)))) (Jvm.hb hby hd) hl)
theorem retI {z : Int32} {t : FieldType} (hd : decode B pc = .ok (.ireturn, 1)) (hr : ret = some t) (ht : t = .int ∨ t = .boolean ∨ t = .byte ∨ t = .char ∨ t = .short) (hn : narrow t (.int z) = .int z) (hc : ce ≤ R.cells) (hs : sl ≤ R.slots) (hP : Post (some (.int z)) h) : Wq l nw Z EL a0 n0 y B ml ret R h0 Post fs h ce sl pc L (.int z :: S) :=
  leaves (fun q => by rw [hr] at q; cases q) hc hs hP (fun hx hby hret X hl => retOut X hx (hret.trans hr) hn (Or.inl ⟨rfl, ht, z, rfl⟩) (Jvm.hb hby hd) hl)
theorem retJ {z : Int64} (hd : decode B pc = .ok (.lreturn, 1)) (hr : ret = some .long) (hc : ce ≤ R.cells) (hs : sl ≤ R.slots) (hP : Post (some (.long z)) h) : Wq l nw Z EL a0 n0 y B ml ret R h0 Post fs h ce sl pc L (.long z :: S) :=
  leaves (fun q => by rw [hr] at q; cases q) hc hs hP (fun hx hby hret X hl => retOut X hx (hret.trans hr) rfl (Or.inr (Or.inl ⟨rfl, rfl, z, rfl⟩)) (Jvm.hb hby hd) hl)
theorem retD {z : UInt64} (hd : decode B pc = .ok (.dreturn, 1)) (hr : ret = some .double) (hc : ce ≤ R.cells) (hs : sl ≤ R.slots) (hP : Post (some (.double z)) h) : Wq l nw Z EL a0 n0 y B ml ret R h0 Post fs h ce sl pc L (.double z :: S) :=
  leaves (fun q => by rw [hr] at q; cases q) hc hs hP (fun hx hby hret X hl => retOut X hx (hret.trans hr) rfl (Or.inr (Or.inr (Or.inl ⟨rfl, rfl, z, rfl⟩))) (Jvm.hb hby hd) hl)
end Rules
section Calls
variable {l : Launch} {nw : Bool} {Z : State} {EL : List (String × Nat)} {a0 : Array Value} {n0 : Nat} {y : MethodName} {B : ByteArray} {ml : Nat} {ret : Option FieldType} {R : Room} {h0 : Heap} {Post : Option Value → Heap → Prop} {fs : List Addr} {h : Heap} {ce sl pc pc' : Nat} {L : Array Slot} {S : List Value}
def Met (l : Launch) (nw : Bool) (Z : State) (EL : List (String × Nat)) (n0 : Nat) (y : MethodName) (B : ByteArray) (ml : Nat) (ret : Option FieldType) (R : Room) (ws : List Jvm.Cond) (as' : Array Value) (fs : List Addr) (h : Heap) (Post : Option Value → Heap → Prop) : Prop :=
  MetFree l y (head1 (Jvm.Cond.code y B ml ret :: ws) R) (fun a U => a = as' ∧ Z.Warmed39 U.vm ∧ U.heap = h ∧ CHv Z EL U.vm h ∧ Old Z n0 h ∧ ∀ x ∈ fs, n0 ≤ x ∧ x < h.size ∧ Safe Z EL U.vm h x) (fun _ _ _ _ _ => True)
    (fun _ U o U' => ∃ v L, o = .returned v ∧ (Post v U'.heap ∧ Fr n0 L ∧ Old Z n0 U'.heap) ∧ CHr Z EL U.vm U.heap U'.vm U'.heap ∧ ReturnedEndW U o U' L R.cells R.slots ∧ (nw = true → U.WarmedH U'.vm))
theorem Met.mono {ws : List Jvm.Cond} {as' : Array Value} {Post' : Option Value → Heap → Prop} (M : Met l nw Z EL n0 y B ml ret R ws as' fs h Post) (hP : ∀ v h', Post v h' → Post' v h') : Met l nw Z EL n0 y B ml ret R ws as' fs h Post' :=
  MetFree.mono M (fun _ _ q => q) (fun _ _ _ _ _ q => q) (fun _ _ _ _ _ ⟨v, L, h1, ⟨h2, h3⟩, h4⟩ => ⟨v, L, h1, ⟨hP v _ h2, h3⟩, h4⟩)
theorem Met.of_body {ws : List Jvm.Cond} {as' : Array Value} {L0 : Array Slot} (hpl : plainFor y = true) (hent : ∀ m, entryFrame m as' ml = mkF m 0 L0 []) (hw : ∀ d ∈ tables_1, d.before a0 Z = true) (hEL : EW Z a0 EL) (hnw : nw = true → EL = [])
    (K : Wq l nw Z EL a0 n0 y B ml ret R h Post fs h 0 0 0 L0 []) : Met l nw Z EL n0 y B ml ret R ws as' fs h Post := by
  refine MetFree.of_bodySF hpl hisR ?_
  intro p e s m args below meth c s₁ Bd hml0 hP hK
  obtain ⟨rfl, hZ, hh, hCv, hO, hF⟩ := hP
  have X0 : Stand p l e R (s.setVm s.vm) m args below meth c s₁ [] 0 0 := Stand.of_body Bd
  have e0 : s₁.heap = h := by rw [← hh, Bd.state]; rfl
  have hml : c.maxLocals = ml := hml0
  obtain ⟨s₂, o, h1, h2, h3, v, L, h4, h5, h6, h7, h8, h9⟩ := K p e s m args below meth c s₁ [] s.vm 0 ⟨⟨Bd.exec, Bd.bytes, hml, Bd.returns, BodyLoose.notSynchronized Bd, (name_of_methodNamed Bd.named Bd.method).1, findClass_of_methodNamed Bd.named, hh⟩, ⟨hZ, hw, hEL, fun q => ⟨rfl, hnw q⟩⟩, X0, e0, ⟨Fr.nil n0, hO⟩, ⟨(State.WarmedH.refl s).since 0, Nat.zero_le _⟩, CHr.refl hCv, hF⟩
  exact ⟨s₂, o, castTop (hent m) h1, h2, h3, v, L, h4, ⟨h5, h6⟩, by rw [hh]; exact h7, h8, h9⟩
def Kd (l : Launch) (Z : State) (a0 : Array Value) (y : MethodName) (B : ByteArray) (ml : Nat) (R : Room) (h : Heap) (ce sl pc : Nat) (L : Array Slot) (S : List Value) (z : MethodName) (len Wd : Nat) (as' : Array Value) (S' : List Value) : Prop :=
  ∀ (p : Program) (e : Env) (s : State) (m : MethodId) (args : Array Value) (below : List Frame) (meth : Method) (c : Code) (T : State) (locs : List Loc), p.tables.exec = Jvm.exec → c.code = B → s.vm.findClass y.cls = some m.cls → Z.Warmed39 s.vm → (∀ d ∈ tables_1, d.before a0 Z = true) → T.heap = h → c.maxLocals = ml → Stand p l e R s m args below meth c T locs ce sl →
    (∀ (Pre : Pt → Array Value → Prop) (Po : Pt → Array Value → Option Value → Pt → Prop), Back l R p e below s args z len Wd Pre Po → (∀ vm₁, s.WarmedH vm₁ → Pre ⟨T.setVm vm₁, locs, ce, sl⟩ as') →
      ∃ (v : Option Value) (vm₁ : Vm) (A : Pt), s.WarmedH vm₁ ∧ Stand p l e R s m args below meth c A.U A.locs A.cells A.slots ∧ Po ⟨T.setVm vm₁, locs, ce, sl⟩ as' v A ∧ ∀ u, Steps p.tables e below (A.U.setTop (mkF m (pc + len) L (v.toList ++ S'))) u → Steps p.tables e below (T.setTop (mkF m pc L S)) u) ∧
    (∀ (Pre : Pt → Array Value → Prop) (Po : Pt → Array Value → Option Value → Pt → Prop), BackS l R p e below s args z len Wd Pre Po → (∀ vm₁, s.WarmedH vm₁ → Pre ⟨T.setVm vm₁, locs, ce, sl⟩ as') →
      ∃ (v : Option Value) (vm₁ : Vm) (A : Pt), s.WarmedH vm₁ ∧ Stand p l e R (s.setVm A.U.vm) m args below meth c A.U A.locs A.cells A.slots ∧ s.Since A.U.vm A.U.heap.size ∧ T.heap.size ≤ A.U.heap.size ∧ Po ⟨T.setVm vm₁, locs, ce, sl⟩ as' v A ∧ ∀ u, Steps p.tables e below (A.U.setTop (mkF m (pc + len) L (v.toList ++ S'))) u → Steps p.tables e below (T.setTop (mkF m pc L S)) u)
theorem kStatic {i i2 i3 i4 ix mlz Wd : Nat} {z : MethodName} {Bz : ByteArray} {retz : Option FieldType} {argsL S' : List Value} {ps : List FieldType} {rz : Option FieldType} (hd : decode B pc = .ok (.invokestatic ix, 3)) (w : tables_1[i]? = some (.methodLink y.cls ix z)) (w2 : tables_1[i2]? = some (.static z)) (w3 : tables_1[i3]? = some (.initialized z.cls)) (w4 : tables_1[i4]? = some (.code z Bz mlz retz))
    (hy : z.cls ≠ "java/lang/invoke/MethodHandle" ∧ z.cls ≠ "java/lang/invoke/VarHandle") (hsz : L.size = ml) (hpd : parseMethodDescriptor z.desc = some ⟨ps, rz⟩) (hlen : argsL.length = ps.length) (hst : S = argsL.reverse ++ S') (hW : (S'.map fun v => v.category).sum ≤ Wd) : Kd l Z a0 y B ml R h ce sl pc L S z 3 Wd argsL.toArray S' :=
  fun p e s m args below meth c T locs hx hby hown hZ hw hT hml X =>
  ⟨fun Pre Po hK hpre => by
    obtain ⟨v, vm₁, A, a1, a2, a3, a4⟩ := Jvm.LawKit.callS X hx hown (mvT hZ (wat hw w)) (mvT hZ (wat hw w2)) (mvT hZ (wat hw w3)) (mvT hZ (wat hw w4)) hy hK (g := mkF m pc L S) rfl (hsz.trans hml.symm) (argsL := argsL) (rest := S') (lenOf hpd hlen) hst (by show 2 * 0 + _ ≤ _; omega) (Jvm.hb hby hd) hpre
    exact ⟨v, vm₁, A, a1, a2, a3, a4⟩,
   fun Pre Po hK hpre => by
    obtain ⟨v, vm₁, A, a1, a2, a3, a4, a5, a6⟩ := callSS X hx hown (mvT hZ (wat hw w)) (mvT hZ (wat hw w2)) (mvT hZ (wat hw w3)) (mvT hZ (wat hw w4)) hy hK (g := mkF m pc L S) rfl (hsz.trans hml.symm) (argsL := argsL) (rest := S') (lenOf hpd hlen) hst (by show 2 * 0 + _ ≤ _; omega) (Jvm.hb hby hd) hpre
    exact ⟨v, vm₁, A, a1, a2, a3, a4, a5, fun u q => a6.trans q⟩⟩
theorem kInit {i i2 i4 ix mlz Wd : Nat} {z : MethodName} {Bz : ByteArray} {argsL S' : List Value} {a : Addr} {ps : List FieldType} {rz : Option FieldType} (hd : decode B pc = .ok (.invokespecial ix, 3)) (hz : z.name = "<init>") (w : tables_1[i]? = some (.methodLink y.cls ix z)) (w2 : tables_1[i2]? = some (.instanceMethod z)) (w4 : tables_1[i4]? = some (.code z Bz mlz none))
    (hy : z.cls ≠ "java/lang/invoke/MethodHandle" ∧ z.cls ≠ "java/lang/invoke/VarHandle") (hsz : L.size = ml) (hpd : parseMethodDescriptor z.desc = some ⟨ps, rz⟩) (hlen : argsL.length = ps.length) (hst : S = argsL.reverse ++ .ref a :: S') (hW : (S'.map fun v => v.category).sum ≤ Wd) : Kd l Z a0 y B ml R h ce sl pc L S z 3 Wd (.ref a :: argsL).toArray S' :=
  fun p e s m args below meth c T locs hx hby hown hZ hw hT hml X =>
  ⟨fun Pre Po hK hpre => by
    obtain ⟨v, vm₁, A, a1, a2, a3, a4⟩ := X.specialBack hx hz hown (mvT hZ (wat hw w)) (mvT hZ (wat hw w2)) (mvT hZ (wat hw w4)) hy hK (g := mkF m pc L S) rfl (hsz.trans hml.symm) (Steps.refl _) (a := a) (argsL := argsL) (rest := S') (lenOf hpd hlen) hst (by show 2 * 0 + _ ≤ _; omega) (Jvm.hb hby hd) hpre
    exact ⟨v, vm₁, A, a1, a2, a3, fun u q => a4.trans q⟩,
   fun Pre Po hK hpre => by
    obtain ⟨v, vm₁, A, a1, a2, a3, a4, a5, a6⟩ := X.specialBackS hx hz hown (mvT hZ (wat hw w)) (mvT hZ (wat hw w2)) (mvT hZ (wat hw w4)) hy hK (g := mkF m pc L S) rfl (hsz.trans hml.symm) (Steps.refl _) (a := a) (argsL := argsL) (rest := S') (lenOf hpd hlen) hst (by show 2 * 0 + _ ≤ _; omega) (Jvm.hb hby hd) hpre
    exact ⟨v, vm₁, A, a1, a2, a3, a4, a5, fun u q => a6.trans q⟩⟩
theorem kVirt {i i2 i3 i4 ix Wd : Nat} {z : MethodName} {C : String} {argsL S' : List Value} {a : Addr} {ps : List FieldType} {rz : Option FieldType} (hd : decode B pc = .ok (.invokevirtual ix, 3)) (w : tables_1[i]? = some (.methodLink y.cls ix z)) (w2 : tables_1[i2]? = some (.declares z)) (w3 : tables_1[i3]? = some (.selects C z z)) (w4 : tables_1[i4]? = some (.instanceMethod z)) (E : Exa Z h a C)
    (hy : z.cls ≠ "java/lang/invoke/MethodHandle" ∧ z.cls ≠ "java/lang/invoke/VarHandle") (hsz : L.size = ml) (hpd : parseMethodDescriptor z.desc = some ⟨ps, rz⟩) (hlen : argsL.length = ps.length) (hst : S = argsL.reverse ++ .ref a :: S') (hW : (S'.map fun v => v.category).sum ≤ Wd) : Kd l Z a0 y B ml R h ce sl pc L S z 3 Wd (.ref a :: argsL).toArray S' :=
  fun p e s m args below meth c T locs hx hby hown hZ hw hT hml X => by
  obtain ⟨cB, kB, q1, q2, q3⟩ := isOf (s := s) (T := T) hZ hT E
  refine ⟨fun Pre Po hK hpre => ?_, fun Pre Po hK hpre => ?_⟩
  · obtain ⟨v, vm₁, A, a1, a2, a3, a4⟩ := X.virtualBack hx hown (mvT hZ (wat hw w)) (mvT hZ (wat hw w2)) (notFace_of_selects (args := #[]) (mvT hZ (wat hw w3))) (mvT hZ (wat hw w3)) (mvT hZ (wat hw w4)) hy hK q1 q3 (g := mkF m pc L S) rfl (hsz.trans hml.symm) (Steps.refl _) (argsL := argsL) (rest := S') (lenOf hpd hlen) hst (by show 2 * 0 + _ ≤ _; omega) (Jvm.hb hby hd) hpre
    exact ⟨v, vm₁, A, a1, a2, a3, fun u q => a4.trans q⟩
  · obtain ⟨v, vm₁, A, a1, a2, a3, a4, a5, a6⟩ := X.virtualBackS hx hown (mvT hZ (wat hw w)) (mvT hZ (wat hw w2)) (notFace_of_selects (args := #[]) (mvT hZ (wat hw w3))) (mvT hZ (wat hw w3)) (mvT hZ (wat hw w4)) hy hK q1 q3 (g := mkF m pc L S) rfl (hsz.trans hml.symm) (Steps.refl _) (argsL := argsL) (rest := S') (lenOf hpd hlen) hst (by show 2 * 0 + _ ≤ _; omega) (Jvm.hb hby hd) hpre
    exact ⟨v, vm₁, A, a1, a2, a3, a4, a5, fun u q => a6.trans q⟩
theorem nilBk {vm : Vm} {x : Addr} : Safe Z [] vm h x := fun ⟨_, q, _⟩ => nomatch q
theorem nilCHv {vm : Vm} : CHv Z [] vm h := fun _ q => nomatch q
theorem nilCHr {vm vm1 : Vm} {h' : Heap} (q : h.size ≤ h'.size) : CHr Z [] vm h vm1 h' := ⟨nilCHv, q, fun _ ⟨_, r, _⟩ => nomatch r⟩
/-- a callee by its contract, as the library's calls take it -/
theorem Met.backS {p : Program} {e : Env} {below : List Frame} {s : State} {args : Array Value} {vm : Vm} {z : MethodName} {Bz : ByteArray} {mlz len Wd : Nat} {retz : Option FieldType} {Rz : Room} {as' : Array Value} {fs' : List Addr} {Pz : Option Value → Heap → Prop}
    (M : Met l nw Z EL n0 z Bz mlz retz Rz [] as' fs' h Pz) (hZ : Z.Warmed39 vm) (wc : (Jvm.Cond.code z Bz mlz retz).before a0 Z = true) (wz : (Jvm.Cond.initialized z.cls).before a0 Z = true) (hf : Rz.frames + 1 ≤ R.frames) (hl : Wd + (mlz + 11) + Rz.locals ≤ R.locals) (hEL : EW Z a0 EL) (H : CHv Z EL vm h) (hO : Old Z n0 h) (hF : ∀ x ∈ fs', n0 ≤ x ∧ x < h.size ∧ Safe Z EL vm h x) :
    BackS l R p e below (s.setVm vm) args z len Wd (fun A a => a = as' ∧ A.U.heap = h ∧ A.cells + Rz.cells ≤ R.cells ∧ A.slots + Rz.slots ≤ R.slots)
      (fun A _ v A' => ∃ Lo, (Pz v A'.U.heap ∧ Fr n0 Lo ∧ Old Z n0 A'.U.heap) ∧ A'.locs = A.locs ++ Lo ∧ A'.cells = A.cells + Rz.cells ∧ A'.slots = A.slots + Rz.slots ∧ CHr Z EL vm h A'.U.vm A'.U.heap) :=
  BackS.of_freeW (bytes := Bz) (maxL := mlz) (ret := retz) (E := fun _ first o t Lo k n => k = Rz.cells ∧ n = Rz.slots ∧ (∃ v, o = .returned v ∧ Pz v t.heap ∧ Fr n0 Lo ∧ Old Z n0 t.heap) ∧ CHr Z EL first.vm first.heap t.vm t.heap) M hf hl
    (fun m meth c A a Y hp => have hU : Z.Warmed39 A.U.vm := wtrans (s := s.setVm vm) hZ Y.warmed
      ⟨by show (Cond.and _ .tt).before a A.U = true; rw [Cond.before_and, mv hU wc]; rfl, mv hU wc, mv hU wz, hp.2.2.1, hp.2.2.2⟩)
    (fun m meth c A a g mk Y hp => ⟨hp.1, wtrans (s := s.setVm vm) hZ Y.warmed, hp.2.1, (CHv.at Y hZ hEL H).1, hO, fun x q => ⟨(hF x q).1, (hF x q).2.1, (CHv.at Y hZ hEL H).safe (hF x q).2.1 (hF x q).2.2⟩⟩) (fun _ _ _ _ _ _ _ _ _ => trivial)
    (fun _ _ _ _ ⟨v, Lo, h1, h2, h3, h4, _⟩ => ⟨Lo, _, _, h4, rfl, rfl, ⟨v, h1, h2⟩, h3⟩)
    (fun m meth c A a g mk v t Lo k n Y hp _ _ ⟨e1, e2, ⟨v', e3, e4⟩, e5⟩ => by
      cases e3; subst e1 e2
      refine ⟨Lo, e4, rfl, rfl, rfl, (CHv.at Y hZ hEL H).trans ?_⟩
      rw [← hp.2.1]; exact e5)
theorem call {i i2 : Nat} {z : MethodName} {Bz : ByteArray} {mlz len Wd : Nat} {retz : Option FieldType} {Rz : Room} {as' : Array Value} {fs' : List Addr} {Pz : Option Value → Heap → Prop} {S' : List Value} (kd : Kd l Z a0 y B ml R h ce sl pc L S z len Wd as' S') (M : Met l nw Z EL n0 z Bz mlz retz Rz [] as' fs' h Pz) (wc : tables_1[i]? = some (.code z Bz mlz retz)) (wz : tables_1[i2]? = some (.initialized z.cls))
    (hfs : ∀ x ∈ fs', x ∈ fs) (hf : Rz.frames + 1 ≤ R.frames) (hl : Wd + (mlz + 11) + Rz.locals ≤ R.locals) (hc : ce + Rz.cells ≤ R.cells) (hs : sl + Rz.slots ≤ R.slots) (hp : pc + len = pc')
    (K : ∀ v h', Pz v h' → h.size ≤ h'.size → Wq l nw Z EL a0 n0 y B ml ret R h0 Post fs h' (ce + Rz.cells) (sl + Rz.slots) pc' L (v.toList ++ S')) : Wq l nw Z EL a0 n0 y B ml ret R h0 Post fs h ce sl pc L S := fun p e s m args below meth c T locs vm k C => by
  obtain ⟨⟨hx, hby, hml, hret, hlk, hnm, hown, hh0⟩, ⟨hZ, hw, hEL, hnw⟩, X, hT, ⟨hN, hO⟩, ⟨hS, hk⟩, hC, hF⟩ := C
  subst hp
  cases hq : nw with
  | true =>
    obtain ⟨q1, rfl⟩ := hnw hq
    have M' : MetFree l z (head1 [Jvm.Cond.code z Bz mlz retz] Rz) (fun a U => a = as' ∧ Z.Warmed39 U.vm ∧ U.heap = h) (fun _ _ _ _ _ => True) (fun _ U o U' => ∃ v Lo, o = .returned v ∧ (Pz v U'.heap ∧ Fr n0 Lo ∧ Old Z n0 U'.heap ∧ h.size ≤ U'.heap.size) ∧ FrameEnd U o U' Lo Rz.cells Rz.slots) :=
      MetFree.mono M (fun a U q => ⟨q.1, q.2.1, q.2.2, nilCHv, hO, fun x r => ⟨(hF x (hfs x r)).1, (hF x (hfs x r)).2.1, nilBk⟩⟩) (fun _ _ _ _ _ q => q) (fun a U o U' hP ⟨v, Lo, h1, h2, h3, h4, h5⟩ => ⟨v, Lo, h1, ⟨h2.1, h2.2.1, h2.2.2, by have := h3.2.1; rw [hP.2.2] at this; exact this⟩, ⟨v, h1⟩, h5 hq, h4.2.2.2⟩)
    obtain ⟨v, vm₁, ⟨T', L', c', n'⟩, -, X', ⟨Lo, ⟨hP, hN', hO', hsz⟩, l1, l2, l3⟩, st⟩ := (kd p e (s.setVm vm) m args below meth c T locs hx hby hown hZ hw hT hml X).1 _ _ (backOf (W := Wd) (s := s.setVm vm) (Q := fun v h' Lo => Pz v h' ∧ Fr n0 Lo ∧ Old Z n0 h' ∧ h.size ≤ h'.size) M' hZ (wat hw wc) (wat hw wz) hf hl) (fun vm₁ _ => ⟨rfl, hT, hc, hs⟩)
    dsimp only [Pt.U, Pt.locs, Pt.cells, Pt.slots] at X' hP hO' hsz l1 l2 l3 st
    subst l1 l2 l3
    have := K v T'.heap hP hsz p e s m args below meth c T' _ vm k ⟨⟨hx, hby, hml, hret, hlk, hnm, hown, hh0⟩, ⟨hZ, hw, hEL, hnw⟩, X', rfl, ⟨hN.app hN', hO'⟩, ⟨hS, Nat.le_trans hk hsz⟩, nilCHr (Nat.le_trans hC.2.1 hsz), fun x r => ⟨(hF x r).1, Nat.lt_of_lt_of_le (hF x r).2.1 hsz, nilBk⟩⟩
    rw [hq] at this
    exact this.st st
  | false =>
    obtain ⟨v, vm₁, ⟨T', L', c', n'⟩, -, X', hS', hsz, ⟨Lo, ⟨hP, hN', hO'⟩, l1, l2, l3, hC'⟩, st⟩ := (kd p e (s.setVm vm) m args below meth c T locs hx hby hown hZ hw hT hml X).2 _ _ (Met.backS (R := R) (Wd := Wd) (a0 := a0) M hZ (wat hw wc) (wat hw wz) hf hl hEL hC.1 hO (fun x r => hF x (hfs x r))) (fun vm₁ _ => ⟨rfl, hT, hc, hs⟩)
    dsimp only [Pt.U, Pt.locs, Pt.cells, Pt.slots] at X' hP hO' hS' hsz l1 l2 l3 hC' st
    subst l1 l2 l3
    have hsz' : h.size ≤ T'.heap.size := by rw [← hT]; exact hsz
    have hW2 : (s.setVm vm).Warmed39 T'.vm := hS'.1
    have hZ' : Z.Warmed39 T'.vm := State.Warmed39.trans (t := s.setVm vm) hZ hW2
    have := K v T'.heap hP hsz' p e s m args below meth c T' _ T'.vm T'.heap.size ⟨⟨hx, hby, hml, hret, hlk, hnm, by rw [hW2.alike.findClass]; exact hown, hh0⟩, ⟨hZ', hw, hEL, fun q => by rw [hq] at q; cases q⟩, X', rfl, ⟨hN.app hN', hO'⟩, ⟨hS.trans hS' (Nat.le_trans hk hsz'), Nat.le_refl _⟩, hC.trans hC', fun x r => ⟨(hF x r).1, Nat.lt_of_lt_of_le (hF x r).2.1 hsz', hC'.safe (hF x r).2.1 (hF x r).2.2⟩⟩
    rw [hq] at this
    exact this.st st
/-- a callee by a law of the library's (or pasted) shape -/
theorem callB {z : MethodName} {len Wd kc ks : Nat} {as' : Array Value} {Qb : Option Value → Heap → List Loc → Prop} {S' : List Value} {ws : List Addr} (kd : Kd l Z a0 y B ml R h ce sl pc L S z len Wd as' S')
    (hK : ∀ {p : Program} {e : Env} {below : List Frame} {s : State} {args : Array Value}, Z.Warmed39 s.vm → (∀ d ∈ tables_1, d.before a0 Z = true) → Back l R p e below s args z len Wd (fun A a => a = as' ∧ A.U.heap = h ∧ A.cells + kc ≤ R.cells ∧ A.slots + ks ≤ R.slots) (fun A _ v A' => ∃ Lo, Qb v A'.U.heap Lo ∧ A'.locs = A.locs ++ Lo ∧ A'.cells = A.cells + kc ∧ A'.slots = A.slots + ks))
    (hws : ∀ x ∈ ws, x ∈ fs) (hQ : ∀ v h' Lo, Qb v h' Lo → Fr n0 Lo ∧ Keep h h' ws) (hc : ce + kc ≤ R.cells) (hs : sl + ks ≤ R.slots) (hp : pc + len = pc')
    (K : ∀ v h' Lo, Qb v h' Lo → Wq l nw Z EL a0 n0 y B ml ret R h0 Post fs h' (ce + kc) (sl + ks) pc' L (v.toList ++ S')) : Wq l nw Z EL a0 n0 y B ml ret R h0 Post fs h ce sl pc L S := fun p e s m args below meth c T locs vm k C => by
  obtain ⟨⟨hx, hby, hml, hret, hlk, hnm, hown, hh0⟩, ⟨hZ, hw, hEL, hnw⟩, X, hT, ⟨hN, hO⟩, ⟨hS, hk⟩, hC, hF⟩ := C
  subst hp
  obtain ⟨v, vm₁, ⟨T', L', c', n'⟩, -, X', ⟨Lo, hP, l1, l2, l3⟩, st⟩ := (kd p e (s.setVm vm) m args below meth c T locs hx hby hown hZ hw hT hml X).1 _ _ (hK (s := s.setVm vm) hZ hw) (fun vm₁ _ => ⟨rfl, hT, hc, hs⟩)
  dsimp only [Pt.U, Pt.locs, Pt.cells, Pt.slots] at X' hP l1 l2 l3 st
  subst l1 l2 l3
  obtain ⟨hN', hKp⟩ := hQ v _ Lo hP
  have hsf : ∀ x ∈ ws, Safe Z EL vm h x := fun x r => (hF x (hws x r)).2.2
  exact (K v T'.heap Lo hP p e s m args below meth c T' _ vm k ⟨⟨hx, hby, hml, hret, hlk, hnm, hown, hh0⟩, ⟨hZ, hw, hEL, hnw⟩, X', rfl, ⟨hN.app hN', hO.keep hKp (fun x r => (hF x (hws x r)).1)⟩, ⟨hS, Nat.le_trans hk hKp.1⟩, hC.trans (CHr.keep hKp hsf hC.1), fun x r => ⟨(hF x r).1, Nat.lt_of_lt_of_le (hF x r).2.1 hKp.1, Safe.keep hKp hsf hC.1 (hF x r).2.2⟩⟩).st st
end Calls
end Ow
end Jvm.Pilot.@@N@@
namespace Jvm.Pilot.@@N@@
open Jvm Jvm.ClassFile Sem Op Lib Jvm.Free Jvm.Stand Jvm.LawKit Jvm.RoadKit Bundle Jvm.Pilot.@@N@@.Jvm.D
namespace Ow
abbrev ST : String := "java/lang/String"
/-- the sets: compact strings are on; the formatter is a reference -/
def Sets (Z : State) : Prop := ∃ (zc : Int32) (fm : Value), Sta Z Z.heap ST "COMPACT_STRINGS" "Z" (.int zc) ∧ ¬ zc = 0 ∧ Sta Z Z.heap "jdk/internal/util/Preconditions" "SIOOBE_FORMATTER" "Ljava/util/function/BiFunction;" fm ∧ fm.isRef = true
abbrev lat (cs : List Int32) : List Value := (cs.map fun c => c.toInt8.toInt32).map Value.int
/-- a String of the chars cs, each 0 to 255 -/
def Str (Z : State) (h : Heap) (a : Addr) (cs : List Int32) : Prop := Exa Z h a ST ∧ Fld Z h a ST "coder" "B" (.int 0) ∧ (∃ (t : Addr) (kb : ClassId), Fld Z h a ST "value" "[B" (.ref t) ∧ Arv Z h t kb .byte (Int32.ofNat cs.length) (lat cs) (.int 0)) ∧ (∀ c ∈ cs, ¬ c < 0 ∧ ¬ (255 : Int32) < c) ∧ cs.length ≤ 4000
section StrFacts
variable {Z : State} {h h' : Heap} {a x : Addr} {cs : List Int32} {C : String} {a0 : Array Value} {k : Nat}
theorem Str.exa (F : Str Z h a cs) : Exa Z h a ST := F.1
theorem Str.lt (F : Str Z h a cs) : a < h.size := F.1.lt
theorem Str.ext (F : Str Z h a cs) (E : Ext h h') : Str Z h' a cs := by
  obtain ⟨e, c, ⟨t, kb, v, ar⟩, r⟩ := F
  exact ⟨e.ext E, c.ext E, ⟨t, kb, v.ext E, ar.ext E⟩, r⟩
theorem Str.keep1 (F : Str Z h a cs) (K : Keep h h' [x]) (ne : a ≠ x) (E : Exa Z h x C) (w : (Jvm.Cond.instantiable C k).before a0 Z = true) : Str Z h' a cs := by
  obtain ⟨e, c, ⟨t, kb, v, ar⟩, r⟩ := F
  have q : t ≠ x := Ne.symm (E.neArv ar w)
  exact ⟨e.keep K, c.keep K (ninS ne nin0), ⟨t, kb, v.keep K (ninS ne nin0), ar.keep K (ninS q nin0)⟩, r⟩
theorem up (h : ∀ c ∈ cs, ¬ c < 0 ∧ ¬ (255 : Int32) < c) : ∀ c ∈ cs, ¬ c < 0 ∧ ¬ (65535 : Int32) < c := fun c hc => ⟨(h c hc).1, fun q => (h c hc).2 (by rw [Int32.lt_iff_toInt_lt] at q ⊢; have e1 : (65535 : Int32).toInt = 65535 := rfl; have e2 : (255 : Int32).toInt = 255 := rfl; omega)⟩
theorem keepExt (K : Keep h h' []) : Ext h h' := ⟨K.1, fun q c r => K.2.1 q c r nin0⟩
theorem Str.wr1 {sl : Nat} {v : Value} (F : Str Z h a cs) (K : Wr h h' x sl v) (ne : a ≠ x) (E : Exa Z h x C) (w : (Jvm.Cond.instantiable C k).before a0 Z = true) : Str Z h' a cs := F.keep1 (Keep.of_wr K) ne E w
end StrFacts
section StrRules
variable {l : Launch} {nw : Bool} {Z : State} {EL : List (String × Nat)} {a0 : Array Value} {n0 : Nat} {y : MethodName} {B : ByteArray} {ml : Nat} {ret : Option FieldType} {R : Room} {h0 : Heap} {Post : Option Value → Heap → Prop} {fs : List Addr} {h : Heap} {ce sl pc pc' : Nat} {L : Array Slot} {S S' : List Value}
/-- new String(chars): the call of the constructor, a char[] of 1 to 4,000 chars, each 0 to 255 -/
theorem strNew {i Wd n : Nat} {x b : Addr} {kC : ClassId} {cs : List Int32} {d v0 c0 : Value} {N : Int32} (hB : Sets Z) (hws : ∀ d ∈ StrChars.Road.words, d ∈ tables_1) (wi : tables_1[i]? = some (.instantiable ST 4)) (kd : Kd l Z a0 y B ml R h ce sl pc L S (⟨"java/lang/String", "<init>", "([C)V"⟩ : MethodName) 3 Wd #[.ref x, .ref b] S')
    (E : Exa Z h x ST) (Vf : Fld Z h x ST "value" "[B" v0) (Cf : Fld Z h x ST "coder" "B" c0) (A : Arv Z h b kC .char N (cs.map Value.int) d) (hn : cs.length = n) (hN : N = Int32.ofNat n) (l0 : 0 < n) (l2 : n ≤ 4000) (hp : ∀ c ∈ cs, ¬ c < 0 ∧ ¬ (255 : Int32) < c) (hx : x ∈ fs)
    (hfr : 4 ≤ R.frames) (hlo : Wd + 65 ≤ R.locals) (hc : ce + 1 ≤ R.cells) (hs : sl + n ≤ R.slots) (hpc : pc + 3 = pc') (K : ∀ h', Keep h h' [x] → Str Z h' x cs → Wq l nw Z EL a0 n0 y B ml ret R h0 Post fs h' (ce + 1) (sl + n) pc' L S') : Wq l nw Z EL a0 n0 y B ml ret R h0 Post fs h ce sl pc L S := by
  obtain ⟨zc, fm, Cs, hz, -, -⟩ := hB
  refine old fun O _ => fsz fun F => ?_
  refine callB (ws := [x]) (kc := 1) (ks := n) (Qb := StrChars.Road.QV Z x N (cs.map fun c => c.toInt8.toInt32) h n0) kd (fun hZ hw => StrChars.Road.backV (W := Wd) hZ (fun d q => hw d (hws d q)) (kI := 4) (wat hw wi) (F x hx).1 (by have := O.2.1; rw [O.1] at this; exact this) E Vf Cf A (Cs.ext O.2) hz hn hN l0 l2 hp rfl hfr hlo)
    (fun z q => by cases List.mem_singleton.mp q; exact hx) (fun v h' Lo q => ⟨q.2.1, q.2.2.1⟩) hc hs hpc (fun v h' Lo q => ?_)
  obtain ⟨rfl, -, q3, q4, q5, t, kb, -, -, -, q6, q7⟩ := q
  exact K h' q3 ⟨q4, q5, ⟨t, kb, q6, by rw [hn, ← hN]; exact q7⟩, hp, by omega⟩
theorem strEq {i Wd : Nat} {x z : Addr} {cs ds : List Int32} (hB : Sets Z) (hws : ∀ d ∈ StrChars.Road.wordsEq, d ∈ tables_1) (wi : tables_1[i]? = some (.instantiable ST 4)) (kd : Kd l Z a0 y B ml R h ce sl pc L S (⟨"java/lang/String", "equals", "(Ljava/lang/Object;)Z"⟩ : MethodName) 3 Wd #[.ref x, .ref z] S')
    (F : Str Z h x cs) (G : Str Z h z ds) (hfr : 2 ≤ R.frames) (hlo : Wd + 28 ≤ R.locals) (hc : ce ≤ R.cells) (hs : sl ≤ R.slots) (hpc : pc + 3 = pc') (K : ∀ b : Int32, ((b = 1 ∧ cs = ds) ∨ (b = 0 ∧ ¬ cs = ds)) → Wq l nw Z EL a0 n0 y B ml ret R h0 Post fs h ce sl pc' L (.int b :: S')) : Wq l nw Z EL a0 n0 y B ml ret R h0 Post fs h ce sl pc L S := by
  obtain ⟨zc, fm, Cs, hz, -, -⟩ := hB
  obtain ⟨e, c, ⟨t, kb, v, ar⟩, hp, l2⟩ := F
  obtain ⟨e', c', ⟨t', kb', v', ar'⟩, hp', l2'⟩ := G
  refine old fun O _ => ?_
  refine callB (ws := []) (kc := 0) (ks := 0) (Qb := fun v h' Lo => ((v = some (.int 1) ∧ cs = ds) ∨ (v = some (.int 0) ∧ ¬ cs = ds)) ∧ Lo = [] ∧ h' = h) kd (fun hZ hw => StrChars.Road.eqW (W := Wd) hZ (fun d q => hw d (hws d q)) (kI := 4) (wat hw wi) e v c ar (StrChars.Road.codOf rfl fun c q => (hp c q).2) (up hp) l2 e' v' c' ar' (StrChars.Road.codOf rfl fun c q => (hp' c q).2) (up hp') l2' (Cs.ext O.2) hz hfr hlo)
    (fun z q => nomatch q) (fun v h' Lo q => by obtain ⟨-, rfl, rfl⟩ := q; exact ⟨Fr.nil _, Keep.refl _ _⟩) hc hs hpc (fun v h' Lo q => ?_)
  obtain ⟨q, rfl, rfl⟩ := q
  rcases q with ⟨rfl, q⟩ | ⟨rfl, q⟩
  · exact K 1 (Or.inl ⟨rfl, q⟩)
  · exact K 0 (Or.inr ⟨rfl, q⟩)
end StrRules
end Ow
end Jvm.Pilot.@@N@@
namespace Jvm.Pilot.@@N@@
open Jvm Jvm.ClassFile Sem Op Lib Jvm.Free Jvm.Stand Jvm.LawKit Jvm.RoadKit Bundle Jvm.Pilot.@@N@@.Jvm.D
namespace Ow
/-! an object of C is no K, K a class that can be made -/
theorem ns_root {Z : State} {a0 : Array Value} {O K : String} {n : Nat} (w : (Cond.noSuperclass O).before a0 Z = true) (wk : (Cond.instantiable K n).before a0 Z = true) (hn : O ≠ K) : NS Z O K := by
  obtain ⟨c, k, h1, h2, h3, -, -⟩ := Cond.noSuperclass_spec w
  obtain ⟨t, kt, g1, -⟩ := Cond.instantiable_spec wk
  have ne := ids_ne h1 g1 hn
  refine ⟨c, t, h1, g1, fun fuel => ?_⟩
  cases fuel with
  | zero => rfl
  | succ f => simp [Vm.isSubclassAux, ne, h2, h3]
theorem ns_no {Z : State} {a0 : Array Value} {C S K : String} {n : Nat} (w : (Cond.superclass C S).before a0 Z = true) (wk : (Cond.instantiable K n).before a0 Z = true) (N : NS Z C K) (hn : C ≠ K) : ∃ c t, Z.vm.findClass C = some c ∧ Z.vm.findClass K = some t ∧ Z.vm.assignable c t = false := by
  obtain ⟨c, t, h0, g0, n3⟩ := N
  obtain ⟨p, k, kp, h1, h2, h3, h4, h5, -, h7⟩ := Cond.superclass_spec h0 w
  obtain ⟨t', k', g1, g2, g5, g7, -⟩ := Cond.instantiable_spec wk
  cases g0.symm.trans g1
  have ne := ids_ne h0 g0 hn
  have gi : k'.isInterface = false := by
    cases hq : k'.isInterface with
    | false => rfl
    | true => simp [hq] at g7
  refine ⟨c, t, h0, g0, ?_⟩
  show Z.vm.assignableAux (255 + 1) c t = false
  simp [Vm.assignableAux, ne, h2, g2, h5, g5, gi, Vm.isSubclass, n3]
theorem both {Q Q' : Prop} {r e : Int32} (h1 : (r = 1 ∧ Q) ∨ (r = 0 ∧ ¬ Q)) (h2 : (e = 1 ∧ Q') ∨ (e = 0 ∧ ¬ Q')) (hq : Q ↔ Q') : r = e := by
  rcases h1 with ⟨rfl, a⟩ | ⟨rfl, a⟩ <;> rcases h2 with ⟨rfl, b⟩ | ⟨rfl, b⟩
  · rfl
  · exact absurd (hq.mp a) b
  · exact absurd (hq.mpr b) a
  · rfl
theorem yes {Q : Prop} {r : Int32} (h1 : (r = 1 ∧ Q) ∨ (r = 0 ∧ ¬ Q)) (hq : Q) : r = 1 := by
  rcases h1 with ⟨rfl, a⟩ | ⟨rfl, a⟩
  · rfl
  · exact absurd hq a
end Ow
end Jvm.Pilot.@@N@@
namespace Jvm.Pilot.@@N@@
open Jvm Jvm.ClassFile Sem Op Lib Jvm.Free Jvm.Stand Jvm.LawKit Jvm.RoadKit Bundle Jvm.Pilot.@@N@@.Jvm.D Ow
theorem d_jdk_42_method_149_0 : decode jdk_42_method_149_code 0 = .ok (.aload_n 0, 1) := by decide +kernel
theorem d_jdk_42_method_149_1 : decode jdk_42_method_149_code 1 = .ok (.invokespecial 1, 3) := by decide +kernel
theorem d_jdk_42_method_149_4 : decode jdk_42_method_149_code 4 = .ok (.iload_n 3, 1) := by decide +kernel
theorem d_jdk_42_method_149_5 : decode jdk_42_method_149_code 5 = .ok (.ifCond .ne 22, 3) := by decide +kernel
theorem d_jdk_42_method_149_8 : decode jdk_42_method_149_code 8 = .ok (.aload_n 0, 1) := by decide +kernel
theorem d_jdk_42_method_149_9 : decode jdk_42_method_149_code 9 = .ok (.ldc 7, 2) := by decide +kernel
theorem d_jdk_42_method_149_11 : decode jdk_42_method_149_code 11 = .ok (.getfield 9, 3) := by decide +kernel
theorem d_jdk_42_method_149_14 : decode jdk_42_method_149_code 14 = .ok (.putfield 9, 3) := by decide +kernel
theorem d_jdk_42_method_149_17 : decode jdk_42_method_149_code 17 = .ok (.aload_n 0, 1) := by decide +kernel
theorem d_jdk_42_method_149_18 : decode jdk_42_method_149_code 18 = .ok (.ldc 7, 2) := by decide +kernel
theorem d_jdk_42_method_149_20 : decode jdk_42_method_149_code 20 = .ok (.getfield 15, 3) := by decide +kernel
theorem d_jdk_42_method_149_23 : decode jdk_42_method_149_code 23 = .ok (.putfield 15, 3) := by decide +kernel
theorem d_jdk_42_method_149_26 : decode jdk_42_method_149_code 26 = .ok (.return_, 1) := by decide +kernel
theorem d_jdk_42_method_3_0 : decode jdk_42_method_3_code 0 = .ok (.aload_n 0, 1) := by decide +kernel
theorem d_jdk_42_method_3_1 : decode jdk_42_method_3_code 1 = .ok (.aload_n 1, 1) := by decide +kernel
theorem d_jdk_42_method_3_2 : decode jdk_42_method_3_code 2 = .ok (.iconst 0, 1) := by decide +kernel
theorem d_jdk_42_method_3_3 : decode jdk_42_method_3_code 3 = .ok (.aload_n 1, 1) := by decide +kernel
theorem d_jdk_42_method_3_4 : decode jdk_42_method_3_code 4 = .ok (.arraylength, 1) := by decide +kernel
theorem d_jdk_42_method_3_5 : decode jdk_42_method_3_code 5 = .ok (.aconst_null, 1) := by decide +kernel
theorem d_jdk_42_method_3_6 : decode jdk_42_method_3_code 6 = .ok (.invokespecial 27, 3) := by decide +kernel
theorem d_jdk_42_method_3_9 : decode jdk_42_method_3_code 9 = .ok (.return_, 1) := by decide +kernel
theorem d_jdk_30_method_1_0 : decode jdk_30_method_1_code 0 = .ok (.aload_n 0, 1) := by decide +kernel
theorem d_jdk_30_method_1_1 : decode jdk_30_method_1_code 1 = .ok (.invokespecial 1, 3) := by decide +kernel
theorem d_jdk_30_method_1_4 : decode jdk_30_method_1_code 4 = .ok (.return_, 1) := by decide +kernel
theorem d_jdk_31_method_11_0 : decode jdk_31_method_11_code 0 = .ok (.aload_n 0, 1) := by decide +kernel
theorem d_jdk_31_method_11_1 : decode jdk_31_method_11_code 1 = .ok (.ifnonnull 12, 3) := by decide +kernel
theorem d_jdk_31_method_11_13 : decode jdk_31_method_11_code 13 = .ok (.aload_n 0, 1) := by decide +kernel
theorem d_jdk_31_method_11_14 : decode jdk_31_method_11_code 14 = .ok (.areturn, 1) := by decide +kernel
theorem d_jdk_43_method_3_0 : decode jdk_43_method_3_code 0 = .ok (.iload_n 0, 1) := by decide +kernel
theorem d_jdk_43_method_3_1 : decode jdk_43_method_3_code 1 = .ok (.sipush 255, 3) := by decide +kernel
theorem d_jdk_43_method_3_4 : decode jdk_43_method_3_code 4 = .ok (.if_icmp .gt 7, 3) := by decide +kernel
theorem d_jdk_43_method_3_7 : decode jdk_43_method_3_code 7 = .ok (.iconst 1, 1) := by decide +kernel
theorem d_jdk_43_method_3_8 : decode jdk_43_method_3_code 8 = .ok (.goto 4, 3) := by decide +kernel
theorem d_jdk_43_method_3_12 : decode jdk_43_method_3_code 12 = .ok (.ireturn, 1) := by decide +kernel
theorem d_jdk_43_method_46_0 : decode jdk_43_method_46_code 0 = .ok (.iconst 1, 1) := by decide +kernel
theorem d_jdk_43_method_46_1 : decode jdk_43_method_46_code 1 = .ok (.newarray .byte, 2) := by decide +kernel
theorem d_jdk_43_method_46_3 : decode jdk_43_method_46_code 3 = .ok (.dup, 1) := by decide +kernel
theorem d_jdk_43_method_46_4 : decode jdk_43_method_46_code 4 = .ok (.iconst 0, 1) := by decide +kernel
theorem d_jdk_43_method_46_5 : decode jdk_43_method_46_code 5 = .ok (.iload_n 0, 1) := by decide +kernel
theorem d_jdk_43_method_46_6 : decode jdk_43_method_46_code 6 = .ok (.i2b, 1) := by decide +kernel
theorem d_jdk_43_method_46_7 : decode jdk_43_method_46_code 7 = .ok (.bastore, 1) := by decide +kernel
theorem d_jdk_43_method_46_8 : decode jdk_43_method_46_code 8 = .ok (.areturn, 1) := by decide +kernel
theorem d_jdk_42_method_151_0 : decode jdk_42_method_151_code 0 = .ok (.aload_n 0, 1) := by decide +kernel
theorem d_jdk_42_method_151_1 : decode jdk_42_method_151_code 1 = .ok (.invokespecial 1, 3) := by decide +kernel
theorem d_jdk_42_method_151_4 : decode jdk_42_method_151_code 4 = .ok (.aload_n 0, 1) := by decide +kernel
theorem d_jdk_42_method_151_5 : decode jdk_42_method_151_code 5 = .ok (.aload_n 1, 1) := by decide +kernel
theorem d_jdk_42_method_151_6 : decode jdk_42_method_151_code 6 = .ok (.putfield 9, 3) := by decide +kernel
theorem d_jdk_42_method_151_9 : decode jdk_42_method_151_code 9 = .ok (.aload_n 0, 1) := by decide +kernel
theorem d_jdk_42_method_151_10 : decode jdk_42_method_151_code 10 = .ok (.iload_n 2, 1) := by decide +kernel
theorem d_jdk_42_method_151_11 : decode jdk_42_method_151_code 11 = .ok (.putfield 15, 3) := by decide +kernel
theorem d_jdk_42_method_151_14 : decode jdk_42_method_151_code 14 = .ok (.return_, 1) := by decide +kernel
theorem d_jdk_42_method_139_0 : decode jdk_42_method_139_code 0 = .ok (.getstatic 38, 3) := by decide +kernel
theorem d_jdk_42_method_139_3 : decode jdk_42_method_139_code 3 = .ok (.ifCond .eq 23, 3) := by decide +kernel
theorem d_jdk_42_method_139_6 : decode jdk_42_method_139_code 6 = .ok (.iload_n 0, 1) := by decide +kernel
theorem d_jdk_42_method_139_7 : decode jdk_42_method_139_code 7 = .ok (.invokestatic 1015, 3) := by decide +kernel
theorem d_jdk_42_method_139_10 : decode jdk_42_method_139_code 10 = .ok (.ifCond .eq 16, 3) := by decide +kernel
theorem d_jdk_42_method_139_13 : decode jdk_42_method_139_code 13 = .ok (.new 10, 3) := by decide +kernel
theorem d_jdk_42_method_139_16 : decode jdk_42_method_139_code 16 = .ok (.dup, 1) := by decide +kernel
theorem d_jdk_42_method_139_17 : decode jdk_42_method_139_code 17 = .ok (.iload_n 0, 1) := by decide +kernel
theorem d_jdk_42_method_139_18 : decode jdk_42_method_139_code 18 = .ok (.invokestatic 1018, 3) := by decide +kernel
theorem d_jdk_42_method_139_21 : decode jdk_42_method_139_code 21 = .ok (.iconst 0, 1) := by decide +kernel
theorem d_jdk_42_method_139_22 : decode jdk_42_method_139_code 22 = .ok (.invokespecial 209, 3) := by decide +kernel
theorem d_jdk_42_method_139_25 : decode jdk_42_method_139_code 25 = .ok (.areturn, 1) := by decide +kernel
theorem d_method_2_0 : decode method_2_code 0 = .ok (.iload_n 0, 1) := by decide +kernel
theorem d_method_2_1 : decode method_2_code 1 = .ok (.ifCond .ne 7, 3) := by decide +kernel
theorem d_method_2_4 : decode method_2_code 4 = .ok (.getstatic 7, 3) := by decide +kernel
theorem d_method_2_7 : decode method_2_code 7 = .ok (.areturn, 1) := by decide +kernel
theorem d_method_2_8 : decode method_2_code 8 = .ok (.iload_n 0, 1) := by decide +kernel
theorem d_method_2_9 : decode method_2_code 9 = .ok (.iconst 1, 1) := by decide +kernel
theorem d_method_2_10 : decode method_2_code 10 = .ok (.if_icmp .ne 7, 3) := by decide +kernel
theorem d_method_2_13 : decode method_2_code 13 = .ok (.getstatic 13, 3) := by decide +kernel
theorem d_method_2_16 : decode method_2_code 16 = .ok (.areturn, 1) := by decide +kernel
theorem d_method_2_17 : decode method_2_code 17 = .ok (.getstatic 16, 3) := by decide +kernel
theorem d_method_2_20 : decode method_2_code 20 = .ok (.areturn, 1) := by decide +kernel
theorem d_method_3_0 : decode method_3_code 0 = .ok (.iload_n 0, 1) := by decide +kernel
theorem d_method_3_1 : decode method_3_code 1 = .ok (.ifCond .ne 14, 3) := by decide +kernel
theorem d_method_3_4 : decode method_3_code 4 = .ok (.new 19, 3) := by decide +kernel
theorem d_method_3_7 : decode method_3_code 7 = .ok (.dup, 1) := by decide +kernel
theorem d_method_3_8 : decode method_3_code 8 = .ok (.iconst 0, 1) := by decide +kernel
theorem d_method_3_9 : decode method_3_code 9 = .ok (.newarray .char, 2) := by decide +kernel
theorem d_method_3_11 : decode method_3_code 11 = .ok (.invokespecial 21, 3) := by decide +kernel
theorem d_method_3_14 : decode method_3_code 14 = .ok (.areturn, 1) := by decide +kernel
theorem d_method_3_15 : decode method_3_code 15 = .ok (.iload_n 0, 1) := by decide +kernel
theorem d_method_3_16 : decode method_3_code 16 = .ok (.iconst 1, 1) := by decide +kernel
theorem d_method_3_17 : decode method_3_code 17 = .ok (.if_icmp .ne 8, 3) := by decide +kernel
theorem d_method_3_20 : decode method_3_code 20 = .ok (.iload_n 1, 1) := by decide +kernel
theorem d_method_3_21 : decode method_3_code 21 = .ok (.invokestatic 24, 3) := by decide +kernel
theorem d_method_3_24 : decode method_3_code 24 = .ok (.areturn, 1) := by decide +kernel
theorem d_method_3_25 : decode method_3_code 25 = .ok (.iconst 2, 1) := by decide +kernel
theorem d_method_3_26 : decode method_3_code 26 = .ok (.newarray .char, 2) := by decide +kernel
theorem d_method_3_28 : decode method_3_code 28 = .ok (.astore_n 3, 1) := by decide +kernel
theorem d_method_3_29 : decode method_3_code 29 = .ok (.aload_n 3, 1) := by decide +kernel
theorem d_method_3_30 : decode method_3_code 30 = .ok (.iconst 0, 1) := by decide +kernel
theorem d_method_3_31 : decode method_3_code 31 = .ok (.iload_n 1, 1) := by decide +kernel
theorem d_method_3_32 : decode method_3_code 32 = .ok (.castore, 1) := by decide +kernel
theorem d_method_3_33 : decode method_3_code 33 = .ok (.aload_n 3, 1) := by decide +kernel
theorem d_method_3_34 : decode method_3_code 34 = .ok (.iconst 1, 1) := by decide +kernel
theorem d_method_3_35 : decode method_3_code 35 = .ok (.iload_n 2, 1) := by decide +kernel
theorem d_method_3_36 : decode method_3_code 36 = .ok (.castore, 1) := by decide +kernel
theorem d_method_3_37 : decode method_3_code 37 = .ok (.new 19, 3) := by decide +kernel
theorem d_method_3_40 : decode method_3_code 40 = .ok (.dup, 1) := by decide +kernel
theorem d_method_3_41 : decode method_3_code 41 = .ok (.aload_n 3, 1) := by decide +kernel
theorem d_method_3_42 : decode method_3_code 42 = .ok (.invokespecial 21, 3) := by decide +kernel
theorem d_method_3_45 : decode method_3_code 45 = .ok (.areturn, 1) := by decide +kernel
theorem d_prog_25_method_1_0 : decode prog_25_method_1_code 0 = .ok (.aload_n 0, 1) := by decide +kernel
theorem d_prog_25_method_1_1 : decode prog_25_method_1_code 1 = .ok (.invokespecial 1, 3) := by decide +kernel
theorem d_prog_25_method_1_4 : decode prog_25_method_1_code 4 = .ok (.aload_n 1, 1) := by decide +kernel
theorem d_prog_25_method_1_5 : decode prog_25_method_1_code 5 = .ok (.ldc 7, 2) := by decide +kernel
theorem d_prog_25_method_1_7 : decode prog_25_method_1_code 7 = .ok (.invokestatic 9, 3) := by decide +kernel
theorem d_prog_25_method_1_10 : decode prog_25_method_1_code 10 = .ok (.pop, 1) := by decide +kernel
theorem d_prog_25_method_1_11 : decode prog_25_method_1_code 11 = .ok (.aload_n 2, 1) := by decide +kernel
theorem d_prog_25_method_1_12 : decode prog_25_method_1_code 12 = .ok (.ldc 15, 2) := by decide +kernel
theorem d_prog_25_method_1_14 : decode prog_25_method_1_code 14 = .ok (.invokestatic 9, 3) := by decide +kernel
theorem d_prog_25_method_1_17 : decode prog_25_method_1_code 17 = .ok (.pop, 1) := by decide +kernel
theorem d_prog_25_method_1_18 : decode prog_25_method_1_code 18 = .ok (.aload_n 0, 1) := by decide +kernel
theorem d_prog_25_method_1_19 : decode prog_25_method_1_code 19 = .ok (.aload_n 1, 1) := by decide +kernel
theorem d_prog_25_method_1_20 : decode prog_25_method_1_code 20 = .ok (.putfield 17, 3) := by decide +kernel
theorem d_prog_25_method_1_23 : decode prog_25_method_1_code 23 = .ok (.aload_n 0, 1) := by decide +kernel
theorem d_prog_25_method_1_24 : decode prog_25_method_1_code 24 = .ok (.aload_n 2, 1) := by decide +kernel
theorem d_prog_25_method_1_25 : decode prog_25_method_1_code 25 = .ok (.putfield 22, 3) := by decide +kernel
theorem d_prog_25_method_1_28 : decode prog_25_method_1_code 28 = .ok (.return_, 1) := by decide +kernel
theorem d_prog_25_method_6_0 : decode prog_25_method_6_code 0 = .ok (.aload_n 0, 1) := by decide +kernel
theorem d_prog_25_method_6_1 : decode prog_25_method_6_code 1 = .ok (.getfield 22, 3) := by decide +kernel
theorem d_prog_25_method_6_4 : decode prog_25_method_6_code 4 = .ok (.areturn, 1) := by decide +kernel
theorem d_prog_25_method_2_0 : decode prog_25_method_2_code 0 = .ok (.aload_n 1, 1) := by decide +kernel
theorem d_prog_25_method_2_1 : decode prog_25_method_2_code 1 = .ok (.instanceof 18, 3) := by decide +kernel
theorem d_prog_25_method_2_4 : decode prog_25_method_2_code 4 = .ok (.ifCond .eq 37, 3) := by decide +kernel
theorem d_prog_25_method_2_7 : decode prog_25_method_2_code 7 = .ok (.aload_n 1, 1) := by decide +kernel
theorem d_prog_25_method_2_8 : decode prog_25_method_2_code 8 = .ok (.checkcast 18, 3) := by decide +kernel
theorem d_prog_25_method_2_11 : decode prog_25_method_2_code 11 = .ok (.astore_n 2, 1) := by decide +kernel
theorem d_prog_25_method_2_12 : decode prog_25_method_2_code 12 = .ok (.aload_n 0, 1) := by decide +kernel
theorem d_prog_25_method_2_13 : decode prog_25_method_2_code 13 = .ok (.getfield 17, 3) := by decide +kernel
theorem d_prog_25_method_2_16 : decode prog_25_method_2_code 16 = .ok (.aload_n 2, 1) := by decide +kernel
theorem d_prog_25_method_2_17 : decode prog_25_method_2_code 17 = .ok (.getfield 17, 3) := by decide +kernel
theorem d_prog_25_method_2_20 : decode prog_25_method_2_code 20 = .ok (.if_acmp .ne 21, 3) := by decide +kernel
theorem d_prog_25_method_2_23 : decode prog_25_method_2_code 23 = .ok (.aload_n 0, 1) := by decide +kernel
theorem d_prog_25_method_2_24 : decode prog_25_method_2_code 24 = .ok (.getfield 22, 3) := by decide +kernel
theorem d_prog_25_method_2_27 : decode prog_25_method_2_code 27 = .ok (.aload_n 2, 1) := by decide +kernel
theorem d_prog_25_method_2_28 : decode prog_25_method_2_code 28 = .ok (.getfield 22, 3) := by decide +kernel
theorem d_prog_25_method_2_31 : decode prog_25_method_2_code 31 = .ok (.invokevirtual 25, 3) := by decide +kernel
theorem d_prog_25_method_2_34 : decode prog_25_method_2_code 34 = .ok (.ifCond .eq 7, 3) := by decide +kernel
theorem d_prog_25_method_2_37 : decode prog_25_method_2_code 37 = .ok (.iconst 1, 1) := by decide +kernel
theorem d_prog_25_method_2_38 : decode prog_25_method_2_code 38 = .ok (.goto 4, 3) := by decide +kernel
theorem d_prog_25_method_2_41 : decode prog_25_method_2_code 41 = .ok (.iconst 0, 1) := by decide +kernel
theorem d_prog_25_method_2_42 : decode prog_25_method_2_code 42 = .ok (.ireturn, 1) := by decide +kernel
theorem pd_0 : parseMethodDescriptor "([CIILjava/lang/Void;)V" = some ⟨[(.array .char), .int, .int, (.object "java/lang/Void")], none⟩ := by decide +kernel
theorem pd_1 : parseMethodDescriptor "(C)Z" = some ⟨[.char], some .boolean⟩ := by decide +kernel
theorem pd_2 : parseMethodDescriptor "(C)[B" = some ⟨[.char], some (.array .byte)⟩ := by decide +kernel
theorem pd_3 : parseMethodDescriptor "([BB)V" = some ⟨[(.array .byte), .byte], none⟩ := by decide +kernel
theorem pd_4 : parseMethodDescriptor "([C)V" = some ⟨[(.array .char)], none⟩ := by decide +kernel
theorem pd_5 : parseMethodDescriptor "(C)Ljava/lang/String;" = some ⟨[.char], some (.object "java/lang/String")⟩ := by decide +kernel
theorem pd_6 : parseMethodDescriptor "()V" = some ⟨[], none⟩ := by decide +kernel
theorem pd_7 : parseMethodDescriptor "(Ljava/lang/Object;Ljava/lang/String;)Ljava/lang/Object;" = some ⟨[(.object "java/lang/Object"), (.object "java/lang/String")], some (.object "java/lang/Object")⟩ := by decide +kernel
theorem pd_8 : parseMethodDescriptor "(Ljava/lang/Object;)Z" = some ⟨[(.object "java/lang/Object")], some .boolean⟩ := by decide +kernel
theorem pd_9 : parseMethodDescriptor "(I)Lcom/example/berth/berth/engine/GroupKind;" = some ⟨[.int], some (.object "com/example/berth/berth/engine/GroupKind")⟩ := by decide +kernel
theorem pd_10 : parseMethodDescriptor "(ICC)Ljava/lang/String;" = some ⟨[.int, .char, .char], some (.object "java/lang/String")⟩ := by decide +kernel
theorem pd_11 : parseMethodDescriptor "(Lcom/example/berth/berth/engine/GroupKind;Ljava/lang/String;)V" = some ⟨[(.object "com/example/berth/berth/engine/GroupKind"), (.object "java/lang/String")], none⟩ := by decide +kernel
theorem pd_12 : parseMethodDescriptor "()Ljava/lang/String;" = some ⟨[], some (.object "java/lang/String")⟩ := by decide +kernel
set_option maxRecDepth 65536 in
set_option maxHeartbeats 40000000 in
theorem rm_str4e (l : Launch) (Z : State) (a0 : Array Value) (hw : ∀ d ∈ tables_1, d.before a0 Z = true) (hEL : EW Z a0 consts_1) (n0 : Nat) (x b : Addr) (h : Heap) (Ex : Exa Z h x "java/lang/String") (Fv : Fld Z h x "java/lang/String" "value" "[B" .null) (Fc : Fld Z h x "java/lang/String" "coder" "B" (.int (0 : Int32)))  :
    Met l false Z consts_1 n0 (⟨"java/lang/String", "<init>", "([CIILjava/lang/Void;)V"⟩ : MethodName) jdk_42_method_149_code 6 none ({ frames := 1, cells := 4, slots := 8, locals := 12 } : Room) [] #[(.ref x), (.ref b), (.int (0 : Int32)), (.int (0 : Int32)), .null] [x] h (fun v h' => v = none ∧ Keep h h' [x] ∧ Str Z h' x []) := by
  refine Met.of_body (a0 := a0) (L0 := #[.val (.ref x), .val (.ref b), .val (.int (0 : Int32)), .val (.int (0 : Int32)), .val .null, .unset]) (plainFor_of_name (by first | (simp [plainName, overriddenIn]; done) | decide +kernel)) (fun m => by first | rfl | (simp [entryFrame, mkF, argsToLocals, Value.category]; done)) hw hEL (by decide) ?_
  have K : Keep h h [x] := Keep.refl _ _
  refine aloadN (pc' := 1) d_jdk_42_method_149_0 rfl rfl rfl ?_
  refine initObj (i := 24) (i2 := 25) (i3 := 26) (Wd := 0) (pc' := 4) d_jdk_42_method_149_1 rfl rfl rfl rfl (by decide) (Nat.le_of_ble_eq_true rfl) (by decide) rfl ?_
  refine iloadN (pc' := 5) d_jdk_42_method_149_4 rfl rfl ?_
  refine ifF (pc' := 8) d_jdk_42_method_149_5 (rfl : (0 : Int32) = (0 : Int32)) rfl ?_
  refine aloadN (pc' := 9) d_jdk_42_method_149_8 rfl rfl rfl ?_
  refine ldcStr (i := 27) (n := 0) (vs := []) (z := (0 : Int32)) (pc' := 11) d_jdk_42_method_149_9 rfl (by decide +kernel) (by decide) rfl ⟨by simp, by simp⟩ (by decide) rfl (by simp) (by decide) (by decide) (by decide) rfl fun h1 sa1 sb1 sk1 SE1 SA1 SC1 SV1 SR1 SN1 => ?_
  replace K := K.ext SE1
  replace Ex := Ex.ext SE1
  replace Fv := Fv.ext SE1
  replace Fc := Fc.ext SE1
  refine at' (ce' := 2) (sl' := 4) (pc' := 11) (L' := #[.val (.ref x), .val (.ref b), .val (.int (0 : Int32)), .val (.int (0 : Int32)), .val .null, .unset]) (S' := [(.ref sa1), (.ref x)]) rfl rfl rfl rfl rfl ?_
  refine getfield (i := 33) (pc' := 14) d_jdk_42_method_149_11 rfl SV1 rfl ?_
  refine putfield (i := 33) (i2 := 29) (i3 := 14) (pc' := 17) (v' := (.ref sb1)) (ty := (.array .byte)) d_jdk_42_method_149_14 rfl (Or.inr ⟨rfl, rfl, rfl⟩) rfl Fv Ex (by decide) rfl rfl (by simp) rfl fun h1 W2 => ?_
  replace K := K.wr W2 (Or.inl (by simp))
  replace Ex := Ex.wr W2
  replace Fv := Fv.same W2
  replace Fc := Fc.other W2 (Or.inr (slot_ne (Or.inr (hw _ (List.mem_of_getElem? (i := 30) rfl))) (Or.inr (hw _ (List.mem_of_getElem? (i := 29) rfl))) (by decide) (t := .byte) (t' := (.array .byte)) (by decide) (by decide)))
  replace SA1 := SA1.wr W2
  replace SC1 := SC1.other W2 (Or.inl (Ne.symm (SN1 x (by simp)).1))
  replace SV1 := SV1.other W2 (Or.inl (Ne.symm (SN1 x (by simp)).1))
  replace SR1 := SR1.other W2 (Ne.symm (SN1 x (by simp)).2)
  refine aloadN (pc' := 18) d_jdk_42_method_149_17 rfl rfl rfl ?_
  refine ldcStr (i := 27) (n := 0) (vs := []) (z := (0 : Int32)) (pc' := 20) d_jdk_42_method_149_18 rfl (by decide +kernel) (by decide) rfl ⟨by simp, by simp⟩ (by decide) rfl (by simp) (by decide) (by decide) (by decide) rfl fun h2 sa2 sb2 sk2 SE2 SA2 SC2 SV2 SR2 SN2 => ?_
  replace K := K.ext SE2
  replace Ex := Ex.ext SE2
  replace Fv := Fv.ext SE2
  replace Fc := Fc.ext SE2
  replace SR1 := SR1.ext SE2
  refine at' (ce' := 4) (sl' := 8) (pc' := 20) (L' := #[.val (.ref x), .val (.ref b), .val (.int (0 : Int32)), .val (.int (0 : Int32)), .val .null, .unset]) (S' := [(.ref sa2), (.ref x)]) rfl rfl rfl rfl rfl ?_
  refine getfield (i := 34) (pc' := 23) d_jdk_42_method_149_20 rfl SC2 rfl ?_
  refine putfield (i := 34) (i2 := 30) (i3 := 14) (pc' := 26) (v' := (.int (0 : Int32))) (ty := .byte) d_jdk_42_method_149_23 rfl (Or.inr ⟨rfl, rfl, rfl⟩) rfl Fc Ex (by decide) (by decide) (by decide) (by simp) rfl fun h3 W4 => ?_
  replace K := K.wr W4 (Or.inl (by simp))
  replace Ex := Ex.wr W4
  replace Fv := Fv.other W4 (Or.inr (slot_ne (Or.inr (hw _ (List.mem_of_getElem? (i := 29) rfl))) (Or.inr (hw _ (List.mem_of_getElem? (i := 30) rfl))) (by decide) (t := (.array .byte)) (t' := .byte) (by decide) (by decide)))
  replace Fc := Fc.same W4
  replace SR1 := SR1.other W4 (Ne.symm (SN1 x (by simp)).2)
  replace SA2 := SA2.wr W4
  replace SC2 := SC2.other W4 (Or.inl (Ne.symm (SN2 x (by simp)).1))
  replace SV2 := SV2.other W4 (Or.inl (Ne.symm (SN2 x (by simp)).1))
  replace SR2 := SR2.other W4 (Ne.symm (SN2 x (by simp)).2)
  exact retV d_jdk_42_method_149_26 rfl (by decide) (by decide) ⟨rfl, K, Ex, Fc, ⟨sb1, _, Fv, SR1⟩, by simp, by decide⟩
set_option maxRecDepth 65536 in
set_option maxHeartbeats 40000000 in
theorem rm_stre (l : Launch) (Z : State) (a0 : Array Value) (hw : ∀ d ∈ tables_1, d.before a0 Z = true) (hEL : EW Z a0 consts_1) (n0 : Nat) (x b : Addr) (kc : ClassId) (dv : Value) (h : Heap) (Ex : Exa Z h x "java/lang/String") (Fv : Fld Z h x "java/lang/String" "value" "[B" .null) (Fc : Fld Z h x "java/lang/String" "coder" "B" (.int (0 : Int32))) (Ab : Arv Z h b kc .char (0 : Int32) [] dv)  :
    Met l false Z consts_1 n0 (⟨"java/lang/String", "<init>", "([C)V"⟩ : MethodName) jdk_42_method_3_code 2 none ({ frames := 2, cells := 4, slots := 8, locals := 29 } : Room) [] #[(.ref x), (.ref b)] [x] h (fun v h' => v = none ∧ Keep h h' [x] ∧ Str Z h' x []) := by
  refine Met.of_body (a0 := a0) (L0 := #[.val (.ref x), .val (.ref b)]) (plainFor_of_name (by first | (simp [plainName, overriddenIn]; done) | decide +kernel)) (fun m => by first | rfl | (simp [entryFrame, mkF, argsToLocals, Value.category]; done)) hw hEL (by decide) ?_
  refine aloadN (pc' := 1) d_jdk_42_method_3_0 rfl rfl rfl ?_
  refine aloadN (pc' := 2) d_jdk_42_method_3_1 rfl rfl rfl ?_
  refine iconst (pc' := 3) (v := (0 : Int32)) d_jdk_42_method_3_2 rfl rfl ?_
  refine aloadN (pc' := 4) d_jdk_42_method_3_3 rfl rfl rfl ?_
  refine arraylength (pc' := 5) d_jdk_42_method_3_4 Ab rfl ?_
  refine aconst_null (pc' := 6) d_jdk_42_method_3_5 rfl ?_
  refine call (i := 23) (i2 := 15) (Wd := 0) (pc' := 9) (kInit (i := 20) (i2 := 21) (i4 := 23) (a := x) (argsL := [(.ref b), (.int (0 : Int32)), (.int (0 : Int32)), .null]) (S' := []) (Wd := 0) d_jdk_42_method_3_6 rfl rfl rfl rfl (by decide) rfl pd_0 rfl rfl (Nat.le_of_ble_eq_true rfl)) (rm_str4e l Z a0 hw hEL n0 x b _ Ex Fv Fc) rfl rfl (by simp) (by decide) (by decide) (by decide) (by decide) rfl fun v_ h5 P6 sz7 => ?_
  obtain ⟨rfl, K, Sx⟩ := P6
  refine at' (ce' := 4) (sl' := 8) (pc' := 9) (L' := #[.val (.ref x), .val (.ref b)]) (S' := []) rfl rfl rfl rfl rfl ?_
  exact retV d_jdk_42_method_3_9 rfl (by decide) (by decide) ⟨rfl, K, Sx⟩
theorem strNewW {l : Launch} {Z : State} {a0 : Array Value} {n0 : Nat} {y : MethodName} {B : ByteArray} {ml : Nat} {ret : Option FieldType} {R : Room} {h0 : Heap} {Post : Option Value → Heap → Prop} {fs : List Addr} {h : Heap} {ce sl pc pc' : Nat} {L : Array Slot} {S S' : List Value} {i Wd n : Nat} {x b : Addr} {kC : ClassId} {cs : List Int32} {d : Value} {N : Int32} (hB : Sets Z) (hws : ∀ d ∈ StrChars.Road.words, d ∈ tables_1) (wi : tables_1[i]? = some (.instantiable ST 4)) (kd : Kd l Z a0 y B ml R h ce sl pc L S (⟨"java/lang/String", "<init>", "([C)V"⟩ : MethodName) 3 Wd #[.ref x, .ref b] S')
    (E : Exa Z h x ST) (Vf : Fld Z h x ST "value" "[B" .null) (Cf : Fld Z h x ST "coder" "B" (.int (0 : Int32))) (A : Arv Z h b kC .char N (cs.map Value.int) d) (hn : cs.length = n) (hN : N = Int32.ofNat n) (l2 : n ≤ 4000) (hp : ∀ c ∈ cs, ¬ c < 0 ∧ ¬ (255 : Int32) < c) (hx : x ∈ fs)
    (hfr : 4 ≤ R.frames) (hlo : Wd + 65 ≤ R.locals) (hc : ce + 4 ≤ R.cells) (hs : sl + (n + 8) ≤ R.slots) (hpc : pc + 3 = pc') (K : ∀ h', Keep h h' [x] → Str Z h' x cs → Wq l false Z consts_1 a0 n0 y B ml ret R h0 Post fs h' (ce + 4) (sl + (n + 8)) pc' L S') : Wq l false Z consts_1 a0 n0 y B ml ret R h0 Post fs h ce sl pc L S := by
  rcases Nat.eq_zero_or_pos n with q | q
  · subst q
    obtain rfl := List.eq_nil_of_length_eq_zero hn
    subst hN
    refine ews fun hw hEL => call (i := 19) (i2 := 15) kd (rm_stre l Z a0 hw hEL n0 x b kC d h E Vf Cf A) rfl rfl (fun z r => by cases List.mem_singleton.mp r; exact hx) (by show 2 + 1 ≤ _; omega) (by show Wd + (2 + 11) + 29 ≤ _; omega) hc hs hpc fun v h' hP _ => ?_
    obtain ⟨rfl, k1, s1⟩ := hP
    exact K h' k1 s1
  · exact strNew hB hws wi kd E Vf Cf A hn hN q l2 hp hx hfr hlo (by omega) (by omega) hpc fun h' k1 s1 => more (by omega) (by omega) (K h' k1 s1)
set_option maxRecDepth 65536 in
set_option maxHeartbeats 40000000 in
theorem rm_rec (l : Launch) (Z : State) (a0 : Array Value) (hw : ∀ d ∈ tables_1, d.before a0 Z = true) (hEL : EW Z a0 consts_1) (n0 : Nat) (a : Addr) (h : Heap)   :
    Met l false Z consts_1 n0 (⟨"java/lang/Record", "<init>", "()V"⟩ : MethodName) jdk_30_method_1_code 1 none ({ frames := 1, cells := 0, slots := 0, locals := 12 } : Room) [] #[(.ref a)] [] h (fun v h' => v = none ∧ h' = h) := by
  refine Met.of_body (a0 := a0) (L0 := #[.val (.ref a)]) (plainFor_of_name (by first | (simp [plainName, overriddenIn]; done) | decide +kernel)) (fun m => by first | rfl | (simp [entryFrame, mkF, argsToLocals, Value.category]; done)) hw hEL (by decide) ?_
  refine aloadN (pc' := 1) d_jdk_30_method_1_0 rfl rfl rfl ?_
  refine initObj (i := 43) (i2 := 25) (i3 := 26) (Wd := 0) (pc' := 4) d_jdk_30_method_1_1 rfl rfl rfl rfl (by decide) (Nat.le_of_ble_eq_true rfl) (by decide) rfl ?_
  exact retV d_jdk_30_method_1_4 rfl (by decide) (by decide) ⟨rfl, rfl⟩
set_option maxRecDepth 65536 in
set_option maxHeartbeats 40000000 in
theorem rm_req (l : Launch) (Z : State) (a0 : Array Value) (hw : ∀ d ∈ tables_1, d.before a0 Z = true) (hEL : EW Z a0 consts_1) (n0 : Nat) (a b : Addr) (h : Heap)   :
    Met l false Z consts_1 n0 (⟨"java/util/Objects", "requireNonNull", "(Ljava/lang/Object;Ljava/lang/String;)Ljava/lang/Object;"⟩ : MethodName) jdk_31_method_11_code 2 (some (.object "java/lang/Object")) ({ frames := 0, cells := 0, slots := 0, locals := 0 } : Room) [] #[(.ref a), (.ref b)] [] h (fun v h' => v = some (.ref a) ∧ h' = h) := by
  refine Met.of_body (a0 := a0) (L0 := #[.val (.ref a), .val (.ref b)]) (plainFor_of_name (by first | (simp [plainName, overriddenIn]; done) | decide +kernel)) (fun m => by first | rfl | (simp [entryFrame, mkF, argsToLocals, Value.category]; done)) hw hEL (by decide) ?_
  refine aloadN (pc' := 1) d_jdk_31_method_11_0 rfl rfl rfl ?_
  refine ifnonnullT (pc' := 13) d_jdk_31_method_11_1 (by decide) rfl ?_
  refine aloadN (pc' := 14) d_jdk_31_method_11_13 rfl rfl rfl ?_
  exact retA d_jdk_31_method_11_14 rfl rfl rfl (by decide) (by decide) ⟨rfl, rfl⟩
set_option maxRecDepth 65536 in
set_option maxHeartbeats 40000000 in
theorem rm_canEnc (l : Launch) (Z : State) (a0 : Array Value) (hw : ∀ d ∈ tables_1, d.before a0 Z = true) (hEL : EW Z a0 consts_1) (n0 : Nat) (c : Int32) (h : Heap)  (hc : ¬ (255 : Int32) < c) :
    Met l false Z consts_1 n0 (⟨"java/lang/StringLatin1", "canEncode", "(C)Z"⟩ : MethodName) jdk_43_method_3_code 1 (some .boolean) ({ frames := 0, cells := 0, slots := 0, locals := 0 } : Room) [] #[(.int c)] [] h (fun v h' => v = some (.int 1) ∧ h' = h) := by
  refine Met.of_body (a0 := a0) (L0 := #[.val (.int c)]) (plainFor_of_name (by first | (simp [plainName, overriddenIn]; done) | decide +kernel)) (fun m => by first | rfl | (simp [entryFrame, mkF, argsToLocals, Value.category]; done)) hw hEL (by decide) ?_
  refine iloadN (pc' := 1) d_jdk_43_method_3_0 rfl rfl ?_
  refine sipush (pc' := 4) (v := (255 : Int32)) d_jdk_43_method_3_1 rfl rfl ?_
  refine icmpF (pc' := 7) d_jdk_43_method_3_4 (hc : ¬ ((255 : Int32) < c)) rfl ?_
  refine iconst (pc' := 8) (v := (1 : Int32)) d_jdk_43_method_3_7 rfl rfl ?_
  refine goto (pc' := 12) d_jdk_43_method_3_8 (by decide) rfl ?_
  exact retI d_jdk_43_method_3_12 rfl (Or.inr (Or.inl rfl)) rfl (by decide) (by decide) ⟨rfl, rfl⟩
set_option maxRecDepth 65536 in
set_option maxHeartbeats 40000000 in
theorem rm_toB (l : Launch) (Z : State) (a0 : Array Value) (hw : ∀ d ∈ tables_1, d.before a0 Z = true) (hEL : EW Z a0 consts_1) (n0 : Nat) (c : Int32) (h : Heap)   :
    Met l false Z consts_1 n0 (⟨"java/lang/StringLatin1", "toBytes", "(C)[B"⟩ : MethodName) jdk_43_method_46_code 1 (some (.array .byte)) ({ frames := 0, cells := 1, slots := 1, locals := 0 } : Room) [] #[(.int c)] [] h (fun v h' => ∃ r kc, v = some (.ref r) ∧ Ext h h' ∧ Arv Z h' r kc .byte (1 : Int32) [.int c.toInt8.toInt32] (.int (0 : Int32))) := by
  refine Met.of_body (a0 := a0) (L0 := #[.val (.int c)]) (plainFor_of_name (by first | (simp [plainName, overriddenIn]; done) | decide +kernel)) (fun m => by first | rfl | (simp [entryFrame, mkF, argsToLocals, Value.category]; done)) hw hEL (by decide) ?_
  have K : Keep h h [] := Keep.refl _ _
  refine iconst (pc' := 1) (v := (1 : Int32)) d_jdk_43_method_46_0 rfl rfl ?_
  refine newarray (i := 28) (cap := 1) (ty := .byte) (pc' := 3) d_jdk_43_method_46_1 rfl rfl (by decide) (by decide) (by decide) (by decide) (by decide) rfl fun h8 a9 kc13 g10 E11 V12 => ?_
  have sz_a9 : h.size ≤ a9 := by rw [g10]; exact K.1
  replace K := K.ext E11
  replace V12 : Arv Z h8 a9 kc13 .byte (1 : Int32) [(.int (0 : Int32))] (.int (0 : Int32)) := V12.pad (pad_rep [] (.int (0 : Int32)) 1)
  refine dup (pc' := 4) d_jdk_43_method_46_3 rfl rfl ?_
  refine iconst (pc' := 5) (v := (0 : Int32)) d_jdk_43_method_46_4 rfl rfl ?_
  refine iloadN (pc' := 6) d_jdk_43_method_46_5 rfl rfl ?_
  refine i2b (pc' := 7) d_jdk_43_method_46_6 rfl ?_
  refine bastore (pc' := 8) d_jdk_43_method_46_7 V12 ⟨by decide, by decide⟩ (by simp) (Nat.le_of_ble_eq_true rfl) rfl fun h14 W15 V16 => ?_
  replace K := K.wr W15 (Or.inr sz_a9)
  replace V12 : Arv Z h14 a9 kc13 .byte (1 : Int32) [(.int (nar .byte (c.toInt8.toInt32)))] (.int (0 : Int32)) := V16
  refine retA d_jdk_43_method_46_8 rfl rfl rfl (by decide) (by decide) ⟨a9, kc13, rfl, keepExt K, ?_⟩
  have q := V12
  have e : nar .byte c.toInt8.toInt32 = c.toInt8.toInt32 := by simp [nar]
  rw [e] at q
  exact q
set_option maxRecDepth 65536 in
set_option maxHeartbeats 40000000 in
theorem rm_sBB (l : Launch) (Z : State) (a0 : Array Value) (hw : ∀ d ∈ tables_1, d.before a0 Z = true) (hEL : EW Z a0 consts_1) (n0 : Nat) (x b : Addr) (h : Heap) (Ex : Exa Z h x "java/lang/String") (Fv : Fld Z h x "java/lang/String" "value" "[B" .null) (Fc : Fld Z h x "java/lang/String" "coder" "B" (.int (0 : Int32)))  :
    Met l false Z consts_1 n0 (⟨"java/lang/String", "<init>", "([BB)V"⟩ : MethodName) jdk_42_method_151_code 3 none ({ frames := 1, cells := 0, slots := 0, locals := 12 } : Room) [] #[(.ref x), (.ref b), (.int (0 : Int32))] [x] h (fun v h' => v = none ∧ Keep h h' [x] ∧ Exa Z h' x "java/lang/String" ∧ Fld Z h' x "java/lang/String" "value" "[B" (.ref b) ∧ Fld Z h' x "java/lang/String" "coder" "B" (.int (0 : Int32))) := by
  refine Met.of_body (a0 := a0) (L0 := #[.val (.ref x), .val (.ref b), .val (.int (0 : Int32))]) (plainFor_of_name (by first | (simp [plainName, overriddenIn]; done) | decide +kernel)) (fun m => by first | rfl | (simp [entryFrame, mkF, argsToLocals, Value.category]; done)) hw hEL (by decide) ?_
  have K : Keep h h [x] := Keep.refl _ _
  refine aloadN (pc' := 1) d_jdk_42_method_151_0 rfl rfl rfl ?_
  refine initObj (i := 24) (i2 := 25) (i3 := 26) (Wd := 0) (pc' := 4) d_jdk_42_method_151_1 rfl rfl rfl rfl (by decide) (Nat.le_of_ble_eq_true rfl) (by decide) rfl ?_
  refine aloadN (pc' := 5) d_jdk_42_method_151_4 rfl rfl rfl ?_
  refine aloadN (pc' := 6) d_jdk_42_method_151_5 rfl rfl rfl ?_
  refine putfield (i := 33) (i2 := 29) (i3 := 14) (pc' := 9) (v' := (.ref b)) (ty := (.array .byte)) d_jdk_42_method_151_6 rfl (Or.inr ⟨rfl, rfl, rfl⟩) rfl Fv Ex (by decide) rfl rfl (by simp) rfl fun h17 W18 => ?_
  replace K := K.wr W18 (Or.inl (by simp))
  replace Ex := Ex.wr W18
  replace Fv := Fv.same W18
  replace Fc := Fc.other W18 (Or.inr (slot_ne (Or.inr (hw _ (List.mem_of_getElem? (i := 30) rfl))) (Or.inr (hw _ (List.mem_of_getElem? (i := 29) rfl))) (by decide) (t := .byte) (t' := (.array .byte)) (by decide) (by decide)))
  refine aloadN (pc' := 10) d_jdk_42_method_151_9 rfl rfl rfl ?_
  refine iloadN (pc' := 11) d_jdk_42_method_151_10 rfl rfl ?_
  refine putfield (i := 34) (i2 := 30) (i3 := 14) (pc' := 14) (v' := (.int (0 : Int32))) (ty := .byte) d_jdk_42_method_151_11 rfl (Or.inr ⟨rfl, rfl, rfl⟩) rfl Fc Ex (by decide) (by decide) (by decide) (by simp) rfl fun h19 W20 => ?_
  replace K := K.wr W20 (Or.inl (by simp))
  replace Ex := Ex.wr W20
  replace Fv := Fv.other W20 (Or.inr (slot_ne (Or.inr (hw _ (List.mem_of_getElem? (i := 29) rfl))) (Or.inr (hw _ (List.mem_of_getElem? (i := 30) rfl))) (by decide) (t := (.array .byte)) (t' := .byte) (by decide) (by decide)))
  replace Fc := Fc.same W20
  exact retV d_jdk_42_method_151_14 rfl (by decide) (by decide) ⟨rfl, K, Ex, Fv, Fc⟩
set_option maxRecDepth 65536 in
set_option maxHeartbeats 40000000 in
theorem rm_valueOf (l : Launch) (Z : State) (a0 : Array Value) (hw : ∀ d ∈ tables_1, d.before a0 Z = true) (hEL : EW Z a0 consts_1) (n0 : Nat) (c : Int32) (h : Heap)  (hB : Sets Z) (h0 : ¬ c < 0) (hc : ¬ (255 : Int32) < c) :
    Met l false Z consts_1 n0 (⟨"java/lang/String", "valueOf", "(C)Ljava/lang/String;"⟩ : MethodName) jdk_42_method_139_code 1 (some (.object "java/lang/String")) ({ frames := 2, cells := 2, slots := 5, locals := 40 } : Room) [] #[(.int c)] [] h (fun v h' => ∃ r, v = some (.ref r) ∧ Ext h h' ∧ Str Z h' r [c]) := by
  refine Met.of_body (a0 := a0) (L0 := #[.val (.int c)]) (plainFor_of_name (by first | (simp [plainName, overriddenIn]; done) | decide +kernel)) (fun m => by first | rfl | (simp [entryFrame, mkF, argsToLocals, Value.category]; done)) hw hEL (by decide) ?_
  have K : Keep h h [] := Keep.refl _ _
  obtain ⟨zc, fm, Cs, hz, -, -⟩ := hB
  refine old fun O21 _ => ?_
  refine getstatic (i := 67) (v := (.int zc)) (pc' := 3) d_jdk_42_method_139_0 rfl (Cs.ext O21.2) rfl ?_
  refine ifF (pc' := 6) d_jdk_42_method_139_3 (hz : ¬ (zc = (0 : Int32))) rfl ?_
  refine iloadN (pc' := 7) d_jdk_42_method_139_6 rfl rfl ?_
  refine call (i := 81) (i2 := 70) (Wd := 0) (pc' := 10) (kStatic (i := 79) (i2 := 80) (i3 := 70) (i4 := 81) (argsL := [(.int c)]) (S' := []) (Wd := 0) d_jdk_42_method_139_7 rfl rfl rfl rfl (by decide) rfl pd_1 rfl rfl (Nat.le_of_ble_eq_true rfl)) (rm_canEnc l Z a0 hw hEL n0 c _ hc) rfl rfl (by simp) (by decide) (by decide) (by decide) (by decide) rfl fun v_ h22 P23 sz24 => ?_
  obtain ⟨rfl, e25⟩ := P23
  rw [e25]
  refine at' (ce' := 0) (sl' := 0) (pc' := 10) (L' := #[.val (.int c)]) (S' := [(.int (1 : Int32))]) rfl rfl rfl rfl rfl ?_
  refine ifF (pc' := 13) d_jdk_42_method_139_10 (by decide : ¬ ((1 : Int32) = (0 : Int32))) rfl ?_
  refine new (i := 66) (i2 := 14) (i3 := 15) (pc' := 16) d_jdk_42_method_139_13 rfl rfl rfl (by decide) (by decide) rfl fun h26 a27 g28 E29 A30 D31 => ?_
  have sz_a27 : h.size ≤ a27 := by rw [g28]; exact K.1
  replace K := K.ext E29
  have F_value_a27 : Fld Z h26 a27 "java/lang/String" "value" "[B" .null := D31 (Or.inr (hw _ (List.mem_of_getElem? (i := 29) rfl))) (ty := (.array .byte)) (by decide)
  have F_coder_a27 : Fld Z h26 a27 "java/lang/String" "coder" "B" (.int (0 : Int32)) := D31 (Or.inr (hw _ (List.mem_of_getElem? (i := 30) rfl))) (ty := .byte) (by decide)
  refine dup (pc' := 17) d_jdk_42_method_139_16 rfl rfl ?_
  refine iloadN (pc' := 18) d_jdk_42_method_139_17 rfl rfl ?_
  refine call (i := 84) (i2 := 70) (Wd := 2) (pc' := 21) (kStatic (i := 82) (i2 := 83) (i3 := 70) (i4 := 84) (argsL := [(.int c)]) (S' := [(.ref a27), (.ref a27)]) (Wd := 2) d_jdk_42_method_139_18 rfl rfl rfl rfl (by decide) rfl pd_2 rfl rfl (Nat.le_of_ble_eq_true rfl)) (rm_toB l Z a0 hw hEL n0 c _) rfl rfl (by simp) (by decide) (by decide) (by decide) (by decide) rfl fun v_ h32 P33 sz34 => ?_
  obtain ⟨b, kb, rfl, Eb, Ab⟩ := P33
  replace K := K.ext Eb
  replace A30 := A30.ext Eb
  replace F_value_a27 := F_value_a27.ext Eb
  replace F_coder_a27 := F_coder_a27.ext Eb
  have ne_b : a27 ≠ b := A30.neArv Ab (hw _ (List.mem_of_getElem? (i := 14) rfl))
  refine at' (ce' := 2) (sl' := 5) (pc' := 21) (L' := #[.val (.int c)]) (S' := [(.ref b), (.ref a27), (.ref a27)]) rfl rfl rfl rfl rfl ?_
  refine iconst (pc' := 22) (v := (0 : Int32)) d_jdk_42_method_139_21 rfl rfl ?_
  refine call (i := 87) (i2 := 15) (Wd := 1) (pc' := 25) (kInit (i := 85) (i2 := 86) (i4 := 87) (a := a27) (argsL := [(.ref b), (.int (0 : Int32))]) (S' := [(.ref a27)]) (Wd := 1) d_jdk_42_method_139_22 rfl rfl rfl rfl (by decide) rfl pd_3 rfl rfl (Nat.le_of_ble_eq_true rfl)) (rm_sBB l Z a0 hw hEL n0 a27 b _ A30 F_value_a27 F_coder_a27) rfl rfl (by simp) (by decide) (by decide) (by decide) (by decide) rfl fun v_ h35 P36 sz37 => ?_
  obtain ⟨rfl, K2, Ex2, Fv2, Fc2⟩ := P36
  replace K := K.trans K2 (allS (Or.inr sz_a27) all0)
  replace A30 := A30.keep K2
  replace Ab := Ab.keep K2 (ninS (Ne.symm ne_b) nin0)
  refine at' (ce' := 2) (sl' := 5) (pc' := 25) (L' := #[.val (.int c)]) (S' := [(.ref a27)]) rfl rfl rfl rfl rfl ?_
  exact retA d_jdk_42_method_139_25 rfl rfl rfl (by decide) (by decide) ⟨a27, rfl, keepExt K, Ex2, Fc2, ⟨b, kb, Fv2, Ab⟩, by intro d hd; cases List.mem_singleton.mp hd; exact ⟨h0, hc⟩, by simp⟩
def Ks (Z : State) (c0 c1 c2 : Addr) : Prop := (Sta Z Z.heap "com/example/berth/berth/engine/GroupKind" "AFFINITY" "Lcom/example/berth/berth/engine/GroupKind;" (.ref c0) ∧ Exa Z Z.heap c0 "com/example/berth/berth/engine/GroupKind$1") ∧ (Sta Z Z.heap "com/example/berth/berth/engine/GroupKind" "ANTI_AFFINITY" "Lcom/example/berth/berth/engine/GroupKind;" (.ref c1) ∧ Exa Z Z.heap c1 "com/example/berth/berth/engine/GroupKind$2") ∧ (Sta Z Z.heap "com/example/berth/berth/engine/GroupKind" "FAULT_DOMAIN" "Lcom/example/berth/berth/engine/GroupKind;" (.ref c2) ∧ Exa Z Z.heap c2 "com/example/berth/berth/engine/GroupKind$3")
def kq (c0 c1 c2 : Addr) (k : Int32) : Addr := if k = 0 then c0 else if k = 1 then c1 else c2
def idl (n x z : Int32) : List Int32 := if n = 0 then [] else if n = 1 then [x] else [x, z]
def ok (x : Int32) : Prop := ¬ x < 0 ∧ ¬ (255 : Int32) < x
theorem own_ok (x : Int32) : ok (x &&& 255) := by
  have h := c_and x 255 (by decide)
  unfold ok
  rw [Int32.lt_iff_toInt_lt, Int32.lt_iff_toInt_lt]
  have e1 : (255 : Int32).toInt = 255 := rfl
  have e0 : (0 : Int32).toInt = 0 := rfl
  omega
theorem own_nar {x : Int32} (h : ok x) : nar .char x = x := by
  have hi := h.2
  have h0 := h.1
  rw [Int32.lt_iff_toInt_lt] at h0 hi
  have e1 : (255 : Int32).toInt = 255 := rfl
  have e0 : (0 : Int32).toInt = 0 := rfl
  have q := c_i2c x
  exact Int32.toInt_inj.mp (by show x.toUInt32.toUInt16.toUInt32.toInt32.toInt = x.toInt; omega)
def t3 (x : Int32) : Prop := x = 0 ∨ x = 1 ∨ x = 2
theorem own_t3 (x : Int32) : t3 ((x &&& 255) % 3) := by
  have h := c_and x 255 (by decide)
  have q := (c_irem (x &&& 255) 3 3 rfl).1 h.1
  have hc : ((x &&& 255) % 3).toInt = 0 ∨ ((x &&& 255) % 3).toInt = 1 ∨ ((x &&& 255) % 3).toInt = 2 := by omega
  rcases hc with e | e | e
  · exact Or.inl (Int32.toInt_inj.mp e)
  · exact Or.inr (Or.inl (Int32.toInt_inj.mp e))
  · exact Or.inr (Or.inr (Int32.toInt_inj.mp e))
def Alien (Z : State) (h : Heap) (b : Addr) : Prop := ∃ D, Exa Z h b D ∧ ∃ c t, Z.vm.findClass D = some c ∧ Z.vm.findClass "com/example/berth/berth/engine/Group" = some t ∧ Z.vm.assignable c t = false
set_option maxRecDepth 65536 in
set_option maxHeartbeats 40000000 in
theorem rm_kind (l : Launch) (Z : State) (a0 : Array Value) (hw : ∀ d ∈ tables_1, d.before a0 Z = true) (hEL : EW Z a0 consts_1) (n0 : Nat) (c0 c1 c2 : Addr) (k : Int32) (h : Heap)  (hK : Ks Z c0 c1 c2) (hB : Sets Z) :
    Met l false Z consts_1 n0 (⟨"com/example/berth/berth/engine/GroupEqualsPinLaw", "kindOf", "(I)Lcom/example/berth/berth/engine/GroupKind;"⟩ : MethodName) method_2_code 1 (some (.object "com/example/berth/berth/engine/GroupKind")) ({ frames := 0, cells := 0, slots := 0, locals := 0 } : Room) [] #[(.int k)] [] h (fun v h' => v = some (.ref (kq c0 c1 c2 k)) ∧ h' = h) := by
  refine Met.of_body (a0 := a0) (L0 := #[.val (.int k)]) (plainFor_of_name (by first | (simp [plainName, overriddenIn]; done) | decide +kernel)) (fun m => by first | rfl | (simp [entryFrame, mkF, argsToLocals, Value.category]; done)) hw hEL (by decide) ?_
  refine iloadN (pc' := 1) d_method_2_0 rfl rfl ?_
  refine ifc (pc' := 8) (pcF := 4) d_method_2_1 (by decide) rfl rfl (fun (q0 : ¬ (k = (0 : Int32))) => ?_) (fun (q0 : k = (0 : Int32)) => ?_)
  · skip
    refine iloadN (pc' := 9) d_method_2_8 rfl rfl ?_
    refine iconst (pc' := 10) (v := (1 : Int32)) d_method_2_9 rfl rfl ?_
    refine icmp (pc' := 17) (pcF := 13) d_method_2_10 (by decide) rfl rfl (fun (q1 : ¬ (k = (1 : Int32))) => ?_) (fun (q1 : k = (1 : Int32)) => ?_)
    · skip
      refine old fun O40 _ => ?_
      refine getstatic (i := 94) (v := (.ref c2)) (pc' := 20) d_method_2_17 rfl (hK.2.2.1.ext O40.2) rfl ?_
      exact retA d_method_2_20 rfl rfl rfl (by decide) (by decide) ⟨by rw [kq, if_neg q0, if_neg q1], rfl⟩
    · skip
      refine old fun O39 _ => ?_
      refine getstatic (i := 97) (v := (.ref c1)) (pc' := 16) d_method_2_13 rfl (hK.2.1.1.ext O39.2) rfl ?_
      exact retA d_method_2_16 rfl rfl rfl (by decide) (by decide) ⟨by rw [kq, if_neg q0, if_pos q1], rfl⟩
  · skip
    refine old fun O38 _ => ?_
    refine getstatic (i := 7) (v := (.ref c0)) (pc' := 7) d_method_2_4 rfl (hK.1.1.ext O38.2) rfl ?_
    exact retA d_method_2_7 rfl rfl rfl (by decide) (by decide) ⟨by rw [kq, if_pos q0], rfl⟩
set_option maxRecDepth 65536 in
set_option maxHeartbeats 40000000 in
theorem rm_id (l : Launch) (Z : State) (a0 : Array Value) (hw : ∀ d ∈ tables_1, d.before a0 Z = true) (hEL : EW Z a0 consts_1) (n0 : Nat) (n x z : Int32) (h : Heap)  (hB : Sets Z) (hx : ok x) (hz : ok z) :
    Met l false Z consts_1 n0 (⟨"com/example/berth/berth/engine/GroupEqualsPinLaw", "idOf", "(ICC)Ljava/lang/String;"⟩ : MethodName) method_3_code 4 (some (.object "java/lang/String")) ({ frames := 4, cells := 6, slots := 16, locals := 66 } : Room) [] #[(.int n), (.int x), (.int z)] [] h (fun v h' => ∃ r, v = some (.ref r) ∧ Ext h h' ∧ Str Z h' r (idl n x z)) := by
  refine Met.of_body (a0 := a0) (L0 := #[.val (.int n), .val (.int x), .val (.int z), .unset]) (plainFor_of_name (by first | (simp [plainName, overriddenIn]; done) | decide +kernel)) (fun m => by first | rfl | (simp [entryFrame, mkF, argsToLocals, Value.category]; done)) hw hEL (by decide) ?_
  have K : Keep h h [] := Keep.refl _ _
  refine iloadN (pc' := 1) d_method_3_0 rfl rfl ?_
  refine ifc (pc' := 15) (pcF := 4) d_method_3_1 (by decide) rfl rfl (fun (q0 : ¬ (n = (0 : Int32))) => ?_) (fun (q0 : n = (0 : Int32)) => ?_)
  · skip
    refine iloadN (pc' := 16) d_method_3_15 rfl rfl ?_
    refine iconst (pc' := 17) (v := (1 : Int32)) d_method_3_16 rfl rfl ?_
    refine icmp (pc' := 25) (pcF := 20) d_method_3_17 (by decide) rfl rfl (fun (q1 : ¬ (n = (1 : Int32))) => ?_) (fun (q1 : n = (1 : Int32)) => ?_)
    · skip
      refine iconst (pc' := 26) (v := (2 : Int32)) d_method_3_25 rfl rfl ?_
      refine newarray (i := 16) (cap := 2) (ty := .char) (pc' := 28) d_method_3_26 rfl rfl (by decide) (by decide) (by decide) (by decide) (by decide) rfl fun h56 a57 kc61 g58 E59 V60 => ?_
      have sz_a57 : h.size ≤ a57 := by rw [g58]; exact K.1
      replace K := K.ext E59
      replace V60 : Arv Z h56 a57 kc61 .char (2 : Int32) [(.int (0 : Int32)), (.int (0 : Int32))] (.int (0 : Int32)) := V60.pad (pad_rep [] (.int (0 : Int32)) 2)
      refine astoreN (pc' := 29) (L' := #[.val (.int n), .val (.int x), .val (.int z), .val (.ref a57)]) d_method_3_28 rfl rfl rfl ?_
      refine aloadN (pc' := 30) d_method_3_29 rfl rfl rfl ?_
      refine iconst (pc' := 31) (v := (0 : Int32)) d_method_3_30 rfl rfl ?_
      refine iloadN (pc' := 32) d_method_3_31 rfl rfl ?_
      refine castore (pc' := 33) d_method_3_32 V60 ⟨by decide, by decide⟩ (by simp) (Nat.le_of_ble_eq_true rfl) rfl fun h62 W63 V64 => ?_
      replace K := K.wr W63 (Or.inr sz_a57)
      replace V60 : Arv Z h62 a57 kc61 .char (2 : Int32) [(.int (nar .char x)), (.int (0 : Int32))] (.int (0 : Int32)) := V64
      refine aloadN (pc' := 34) d_method_3_33 rfl rfl rfl ?_
      refine iconst (pc' := 35) (v := (1 : Int32)) d_method_3_34 rfl rfl ?_
      refine iloadN (pc' := 36) d_method_3_35 rfl rfl ?_
      refine castore (pc' := 37) d_method_3_36 V60 ⟨by decide, by decide⟩ (by simp) (Nat.le_of_ble_eq_true rfl) rfl fun h65 W66 V67 => ?_
      replace K := K.wr W66 (Or.inr sz_a57)
      replace V60 : Arv Z h65 a57 kc61 .char (2 : Int32) [(.int (nar .char x)), (.int (nar .char z))] (.int (0 : Int32)) := V67
      refine new (i := 13) (i2 := 14) (i3 := 15) (pc' := 40) d_method_3_37 rfl rfl rfl (by decide) (by decide) rfl fun h68 a69 g70 E71 A72 D73 => ?_
      have sz_a69 : h.size ≤ a69 := by rw [g70]; exact K.1
      have ne_a57_a69 : a57 ≠ a69 := Nat.ne_of_lt (by rw [g70]; exact V60.lt)
      replace K := K.ext E71
      replace V60 := V60.ext E71
      have F_value_a69 : Fld Z h68 a69 "java/lang/String" "value" "[B" .null := D73 (Or.inr (hw _ (List.mem_of_getElem? (i := 29) rfl))) (ty := (.array .byte)) (by decide)
      have F_coder_a69 : Fld Z h68 a69 "java/lang/String" "coder" "B" (.int (0 : Int32)) := D73 (Or.inr (hw _ (List.mem_of_getElem? (i := 30) rfl))) (ty := .byte) (by decide)
      refine dup (pc' := 41) d_method_3_40 rfl rfl ?_
      refine aloadN (pc' := 42) d_method_3_41 rfl rfl rfl ?_
      have Vb : Arv Z h68 a57 kc61 .char (2 : Int32) ([x, z].map Value.int) (.int (0 : Int32)) := by
        have q := V60
        rw [own_nar hx, own_nar hz] at q; exact q
      refine strNewW (i := 14) (Wd := 1) (n := 2) (cs := [x, z]) (pc' := 45) hB (by decide +kernel) rfl (kInit (i := 17) (i2 := 18) (i4 := 19) (a := a69) (argsL := [(.ref a57)]) (S' := [(.ref a69)]) (Wd := 1) d_method_3_42 rfl rfl rfl rfl (by decide) rfl pd_4 rfl rfl (Nat.le_of_ble_eq_true rfl)) A72 F_value_a69 F_coder_a69 Vb rfl rfl (by decide) (by intro c hc; simp only [List.mem_cons, List.not_mem_nil, or_false] at hc; rcases hc with rfl | rfl <;> first | exact hx | exact hz) (by simp) (by decide) (by decide) (by decide) (by decide) rfl fun hs Ks Ss => ?_
      replace K := K.trans Ks (allS (Or.inr sz_a69) all0)
      replace V60 := V60.keep Ks (ninS ne_a57_a69 nin0)
      replace A72 := A72.keep Ks
      refine at' (ce' := 6) (sl' := 16) (pc' := 45) (L' := #[.val (.int n), .val (.int x), .val (.int z), .val (.ref a57)]) (S' := [(.ref a69)]) rfl rfl rfl rfl rfl ?_
      exact retA d_method_3_45 rfl rfl rfl (by decide) (by decide) ⟨a69, rfl, keepExt K, by simpa [idl, q0, q1] using Ss⟩
    · skip
      refine iloadN (pc' := 21) d_method_3_20 rfl rfl ?_
      refine call (i := 78) (i2 := 15) (Wd := 0) (pc' := 24) (kStatic (i := 76) (i2 := 77) (i3 := 15) (i4 := 78) (argsL := [(.int x)]) (S' := []) (Wd := 0) d_method_3_21 rfl rfl rfl rfl (by decide) rfl pd_5 rfl rfl (Nat.le_of_ble_eq_true rfl)) (rm_valueOf l Z a0 hw hEL n0 x _ hB hx.1 hx.2) rfl rfl (by simp) (by decide) (by decide) (by decide) (by decide) rfl fun v_ h53 P54 sz55 => ?_
      obtain ⟨r, rfl, E1, S1⟩ := P54
      refine at' (ce' := 2) (sl' := 5) (pc' := 24) (L' := #[.val (.int n), .val (.int x), .val (.int z), .unset]) (S' := [(.ref r)]) rfl rfl rfl rfl rfl ?_
      exact retA d_method_3_24 rfl rfl rfl (by decide) (by decide) ⟨r, rfl, E1, by simpa [idl, q1] using S1⟩
  · skip
    refine new (i := 13) (i2 := 14) (i3 := 15) (pc' := 7) d_method_3_4 rfl rfl rfl (by decide) (by decide) rfl fun h41 a42 g43 E44 A45 D46 => ?_
    have sz_a42 : h.size ≤ a42 := by rw [g43]; exact K.1
    replace K := K.ext E44
    have F_value_a42 : Fld Z h41 a42 "java/lang/String" "value" "[B" .null := D46 (Or.inr (hw _ (List.mem_of_getElem? (i := 29) rfl))) (ty := (.array .byte)) (by decide)
    have F_coder_a42 : Fld Z h41 a42 "java/lang/String" "coder" "B" (.int (0 : Int32)) := D46 (Or.inr (hw _ (List.mem_of_getElem? (i := 30) rfl))) (ty := .byte) (by decide)
    refine dup (pc' := 8) d_method_3_7 rfl rfl ?_
    refine iconst (pc' := 9) (v := (0 : Int32)) d_method_3_8 rfl rfl ?_
    refine newarray (i := 16) (cap := 0) (ty := .char) (pc' := 11) d_method_3_9 rfl rfl (by decide) (by decide) (by decide) (by decide) (by decide) rfl fun h47 a48 kc52 g49 E50 V51 => ?_
    have sz_a48 : h.size ≤ a48 := by rw [g49]; exact K.1
    have ne_a42_a48 : a42 ≠ a48 := Nat.ne_of_lt (by rw [g49]; exact A45.lt)
    replace K := K.ext E50
    replace A45 := A45.ext E50
    replace F_value_a42 := F_value_a42.ext E50
    replace F_coder_a42 := F_coder_a42.ext E50
    replace V51 : Arv Z h47 a48 kc52 .char (0 : Int32) [] (.int (0 : Int32)) := V51.pad (pad_rep [] (.int (0 : Int32)) 0)
    have Vb : Arv Z h47 a48 kc52 .char (0 : Int32) ([].map Value.int) (.int (0 : Int32)) := by
      have q := V51
      exact q
    refine strNewW (i := 14) (Wd := 1) (n := 0) (cs := []) (pc' := 14) hB (by decide +kernel) rfl (kInit (i := 17) (i2 := 18) (i4 := 19) (a := a42) (argsL := [(.ref a48)]) (S' := [(.ref a42)]) (Wd := 1) d_method_3_11 rfl rfl rfl rfl (by decide) rfl pd_4 rfl rfl (Nat.le_of_ble_eq_true rfl)) A45 F_value_a42 F_coder_a42 Vb rfl rfl (by decide) (by simp) (by simp) (by decide) (by decide) (by decide) (by decide) rfl fun hs Ks Ss => ?_
    replace K := K.trans Ks (allS (Or.inr sz_a42) all0)
    replace A45 := A45.keep Ks
    replace V51 := V51.keep Ks (ninS (Ne.symm ne_a42_a48) nin0)
    refine at' (ce' := 6) (sl' := 12) (pc' := 14) (L' := #[.val (.int n), .val (.int x), .val (.int z), .unset]) (S' := [(.ref a42)]) rfl rfl rfl rfl rfl ?_
    exact retA d_method_3_14 rfl rfl rfl (by decide) (by decide) ⟨a42, rfl, keepExt K, by simpa [idl, q0] using Ss⟩
set_option maxRecDepth 65536 in
set_option maxHeartbeats 40000000 in
theorem rm_gi (l : Launch) (Z : State) (a0 : Array Value) (hw : ∀ d ∈ tables_1, d.before a0 Z = true) (hEL : EW Z a0 consts_1) (n0 : Nat) (a k s : Addr) (h : Heap) (Ea : Exa Z h a "com/example/berth/berth/engine/Group") (Fk : Fld Z h a "com/example/berth/berth/engine/Group" "kind" "Lcom/example/berth/berth/engine/GroupKind;" .null) (Fi : Fld Z h a "com/example/berth/berth/engine/Group" "id" "Ljava/lang/String;" .null)  :
    Met l false Z consts_1 n0 (⟨"com/example/berth/berth/engine/Group", "<init>", "(Lcom/example/berth/berth/engine/GroupKind;Ljava/lang/String;)V"⟩ : MethodName) prog_25_method_1_code 3 none ({ frames := 2, cells := 4, slots := 32, locals := 24 } : Room) [] #[(.ref a), (.ref k), (.ref s)] [a] h (fun v h' => v = none ∧ Keep h h' [a] ∧ Exa Z h' a "com/example/berth/berth/engine/Group" ∧ Fld Z h' a "com/example/berth/berth/engine/Group" "kind" "Lcom/example/berth/berth/engine/GroupKind;" (.ref k) ∧ Fld Z h' a "com/example/berth/berth/engine/Group" "id" "Ljava/lang/String;" (.ref s)) := by
  refine Met.of_body (a0 := a0) (L0 := #[.val (.ref a), .val (.ref k), .val (.ref s)]) (plainFor_of_name (by first | (simp [plainName, overriddenIn]; done) | decide +kernel)) (fun m => by first | rfl | (simp [entryFrame, mkF, argsToLocals, Value.category]; done)) hw hEL (by decide) ?_
  have K : Keep h h [a] := Keep.refl _ _
  refine aloadN (pc' := 1) d_prog_25_method_1_0 rfl rfl rfl ?_
  refine call (i := 42) (i2 := 41) (Wd := 0) (pc' := 4) (kInit (i := 38) (i2 := 39) (i4 := 42) (a := a) (argsL := []) (S' := []) (Wd := 0) d_prog_25_method_1_1 rfl rfl rfl rfl (by decide) rfl pd_6 rfl rfl (Nat.le_of_ble_eq_true rfl)) (rm_rec l Z a0 hw hEL n0 a _) rfl rfl (by simp) (by decide) (by decide) (by decide) (by decide) rfl fun v_ h74 P75 sz76 => ?_
  obtain ⟨rfl, e77⟩ := P75
  rw [e77]
  refine at' (ce' := 0) (sl' := 0) (pc' := 4) (L' := #[.val (.ref a), .val (.ref k), .val (.ref s)]) (S' := []) rfl rfl rfl rfl rfl ?_
  refine aloadN (pc' := 5) d_prog_25_method_1_4 rfl rfl rfl ?_
  refine ldcAny (i := 44) (n := 16) (pc' := 7) d_prog_25_method_1_5 rfl (by decide +kernel) rfl (by decide) (by decide) (by decide) (by decide) rfl fun h1 la1 LE1 => ?_
  replace K := K.ext LE1
  replace Ea := Ea.ext LE1
  replace Fk := Fk.ext LE1
  replace Fi := Fi.ext LE1
  refine at' (ce' := 2) (sl' := 20) (pc' := 7) (L' := #[.val (.ref a), .val (.ref k), .val (.ref s)]) (S' := [(.ref la1), (.ref k)]) rfl rfl rfl rfl rfl ?_
  refine call (i := 48) (i2 := 47) (Wd := 0) (pc' := 10) (kStatic (i := 45) (i2 := 46) (i3 := 47) (i4 := 48) (argsL := [(.ref k), (.ref la1)]) (S' := []) (Wd := 0) d_prog_25_method_1_7 rfl rfl rfl rfl (by decide) rfl pd_7 rfl rfl (Nat.le_of_ble_eq_true rfl)) (rm_req l Z a0 hw hEL n0 k la1 _) rfl rfl (by simp) (by decide) (by decide) (by decide) (by decide) rfl fun v_ h78 P79 sz80 => ?_
  obtain ⟨rfl, e81⟩ := P79
  rw [e81]
  refine at' (ce' := 2) (sl' := 20) (pc' := 10) (L' := #[.val (.ref a), .val (.ref k), .val (.ref s)]) (S' := [(.ref k)]) rfl rfl rfl rfl rfl ?_
  refine Ow.pop (pc' := 11) d_prog_25_method_1_10 rfl rfl ?_
  refine aloadN (pc' := 12) d_prog_25_method_1_11 rfl rfl rfl ?_
  refine ldcAny (i := 49) (n := 8) (pc' := 14) d_prog_25_method_1_12 rfl (by decide +kernel) rfl (by decide) (by decide) (by decide) (by decide) rfl fun h2 la2 LE2 => ?_
  replace K := K.ext LE2
  replace Ea := Ea.ext LE2
  replace Fk := Fk.ext LE2
  replace Fi := Fi.ext LE2
  refine at' (ce' := 4) (sl' := 32) (pc' := 14) (L' := #[.val (.ref a), .val (.ref k), .val (.ref s)]) (S' := [(.ref la2), (.ref s)]) rfl rfl rfl rfl rfl ?_
  refine call (i := 48) (i2 := 47) (Wd := 0) (pc' := 17) (kStatic (i := 45) (i2 := 46) (i3 := 47) (i4 := 48) (argsL := [(.ref s), (.ref la2)]) (S' := []) (Wd := 0) d_prog_25_method_1_14 rfl rfl rfl rfl (by decide) rfl pd_7 rfl rfl (Nat.le_of_ble_eq_true rfl)) (rm_req l Z a0 hw hEL n0 s la2 _) rfl rfl (by simp) (by decide) (by decide) (by decide) (by decide) rfl fun v_ h82 P83 sz84 => ?_
  obtain ⟨rfl, e85⟩ := P83
  rw [e85]
  refine at' (ce' := 4) (sl' := 32) (pc' := 17) (L' := #[.val (.ref a), .val (.ref k), .val (.ref s)]) (S' := [(.ref s)]) rfl rfl rfl rfl rfl ?_
  refine Ow.pop (pc' := 18) d_prog_25_method_1_17 rfl rfl ?_
  refine aloadN (pc' := 19) d_prog_25_method_1_18 rfl rfl rfl ?_
  refine aloadN (pc' := 20) d_prog_25_method_1_19 rfl rfl rfl ?_
  refine putfield (i := 50) (i2 := 51) (i3 := 1) (pc' := 23) (v' := (.ref k)) (ty := (.object "com/example/berth/berth/engine/GroupKind")) d_prog_25_method_1_20 rfl (Or.inr ⟨rfl, rfl, rfl⟩) rfl Fk Ea (by decide) rfl rfl (by simp) rfl fun h86 W87 => ?_
  replace K := K.wr W87 (Or.inl (by simp))
  replace Ea := Ea.wr W87
  replace Fk := Fk.same W87
  replace Fi := Fi.other W87 (Or.inr (slot_ne (Or.inr (hw _ (List.mem_of_getElem? (i := 53) rfl))) (Or.inr (hw _ (List.mem_of_getElem? (i := 51) rfl))) (by decide) (t := (.object "java/lang/String")) (t' := (.object "com/example/berth/berth/engine/GroupKind")) (by decide) (by decide)))
  refine aloadN (pc' := 24) d_prog_25_method_1_23 rfl rfl rfl ?_
  refine aloadN (pc' := 25) d_prog_25_method_1_24 rfl rfl rfl ?_
  refine putfield (i := 52) (i2 := 53) (i3 := 1) (pc' := 28) (v' := (.ref s)) (ty := (.object "java/lang/String")) d_prog_25_method_1_25 rfl (Or.inr ⟨rfl, rfl, rfl⟩) rfl Fi Ea (by decide) rfl rfl (by simp) rfl fun h88 W89 => ?_
  replace K := K.wr W89 (Or.inl (by simp))
  replace Ea := Ea.wr W89
  replace Fk := Fk.other W89 (Or.inr (slot_ne (Or.inr (hw _ (List.mem_of_getElem? (i := 51) rfl))) (Or.inr (hw _ (List.mem_of_getElem? (i := 53) rfl))) (by decide) (t := (.object "com/example/berth/berth/engine/GroupKind")) (t' := (.object "java/lang/String")) (by decide) (by decide)))
  replace Fi := Fi.same W89
  exact retV d_prog_25_method_1_28 rfl (by decide) (by decide) ⟨rfl, K, Ea, Fk, Fi⟩
set_option maxRecDepth 65536 in
set_option maxHeartbeats 40000000 in
theorem rm_gid (l : Launch) (Z : State) (a0 : Array Value) (hw : ∀ d ∈ tables_1, d.before a0 Z = true) (hEL : EW Z a0 consts_1) (n0 : Nat) (a s : Addr) (h : Heap) (Fi : Fld Z h a "com/example/berth/berth/engine/Group" "id" "Ljava/lang/String;" (.ref s))  :
    Met l false Z consts_1 n0 (⟨"com/example/berth/berth/engine/Group", "id", "()Ljava/lang/String;"⟩ : MethodName) prog_25_method_6_code 1 (some (.object "java/lang/String")) ({ frames := 0, cells := 0, slots := 0, locals := 0 } : Room) [] #[(.ref a)] [] h (fun v h' => v = some (.ref s) ∧ h' = h) := by
  refine Met.of_body (a0 := a0) (L0 := #[.val (.ref a)]) (plainFor_of_name (by first | (simp [plainName, overriddenIn]; done) | decide +kernel)) (fun m => by first | rfl | (simp [entryFrame, mkF, argsToLocals, Value.category]; done)) hw hEL (by decide) ?_
  refine aloadN (pc' := 1) d_prog_25_method_6_0 rfl rfl rfl ?_
  refine getfield (i := 52) (pc' := 4) d_prog_25_method_6_1 rfl Fi rfl ?_
  exact retA d_prog_25_method_6_4 rfl rfl rfl (by decide) (by decide) ⟨rfl, rfl⟩
set_option maxRecDepth 65536 in
set_option maxHeartbeats 40000000 in
theorem rm_ge (l : Launch) (Z : State) (a0 : Array Value) (hw : ∀ d ∈ tables_1, d.before a0 Z = true) (hEL : EW Z a0 consts_1) (n0 : Nat) (a b ka kb s t : Addr) (cs ds : List Int32) (h : Heap) (Ea : Exa Z h a "com/example/berth/berth/engine/Group") (Fka : Fld Z h a "com/example/berth/berth/engine/Group" "kind" "Lcom/example/berth/berth/engine/GroupKind;" (.ref ka)) (Fia : Fld Z h a "com/example/berth/berth/engine/Group" "id" "Ljava/lang/String;" (.ref s)) (Ss : Str Z h s cs) (Eb : Exa Z h b "com/example/berth/berth/engine/Group") (Fkb : Fld Z h b "com/example/berth/berth/engine/Group" "kind" "Lcom/example/berth/berth/engine/GroupKind;" (.ref kb)) (Fib : Fld Z h b "com/example/berth/berth/engine/Group" "id" "Ljava/lang/String;" (.ref t)) (Tt : Str Z h t ds) (hB : Sets Z) :
    Met l false Z consts_1 n0 (⟨"com/example/berth/berth/engine/Group", "equals", "(Ljava/lang/Object;)Z"⟩ : MethodName) prog_25_method_2_code 3 (some .boolean) ({ frames := 2, cells := 0, slots := 0, locals := 28 } : Room) [] #[(.ref a), (.ref b)] [] h (fun v h' => ∃ r : Int32, v = some (.int r) ∧ ((r = 1 ∧ (ka = kb ∧ cs = ds)) ∨ (r = 0 ∧ ¬ (ka = kb ∧ cs = ds))) ∧ h' = h) := by
  refine Met.of_body (a0 := a0) (L0 := #[.val (.ref a), .val (.ref b), .unset]) (plainFor_of_name (by first | (simp [plainName, overriddenIn]; done) | decide +kernel)) (fun m => by first | rfl | (simp [entryFrame, mkF, argsToLocals, Value.category]; done)) hw hEL (by decide) ?_
  refine aloadN (pc' := 1) d_prog_25_method_2_0 rfl rfl rfl ?_
  refine instanceofY (i := 59) (pc' := 4) d_prog_25_method_2_1 rfl (Ins.self Eb) rfl ?_
  refine ifF (pc' := 7) d_prog_25_method_2_4 (by decide : ¬ ((1 : Int32) = (0 : Int32))) rfl ?_
  refine aloadN (pc' := 8) d_prog_25_method_2_7 rfl rfl rfl ?_
  refine checkcast (i := 59) (pc' := 11) d_prog_25_method_2_8 rfl (Ins.self Eb) rfl ?_
  refine astoreN (pc' := 12) (L' := #[.val (.ref a), .val (.ref b), .val (.ref b)]) d_prog_25_method_2_11 rfl rfl rfl ?_
  refine aloadN (pc' := 13) d_prog_25_method_2_12 rfl rfl rfl ?_
  refine getfield (i := 50) (pc' := 16) d_prog_25_method_2_13 rfl Fka rfl ?_
  refine aloadN (pc' := 17) d_prog_25_method_2_16 rfl rfl rfl ?_
  refine getfield (i := 50) (pc' := 20) d_prog_25_method_2_17 rfl Fkb rfl ?_
  by_cases qk : ka = kb
  · skip
    refine acmp (pc' := 23) (v := (.ref ka)) (w := (.ref kb)) true d_prog_25_method_2_20 rfl rfl (decide_eq_true (congrArg Value.ref qk)) (by decide) rfl ?_
    refine aloadN (pc' := 24) d_prog_25_method_2_23 rfl rfl rfl ?_
    refine getfield (i := 52) (pc' := 27) d_prog_25_method_2_24 rfl Fia rfl ?_
    refine aloadN (pc' := 28) d_prog_25_method_2_27 rfl rfl rfl ?_
    refine getfield (i := 52) (pc' := 31) d_prog_25_method_2_28 rfl Fib rfl ?_
    refine strEq (i := 14) (Wd := 0) (pc' := 34) hB (by decide +kernel) rfl (kVirt (i := 61) (i2 := 62) (i3 := 64) (i4 := 63) (C := "java/lang/String") (a := s) (argsL := [(.ref t)]) (S' := []) (Wd := 0) d_prog_25_method_2_31 rfl rfl rfl rfl Ss.exa (by decide) rfl pd_8 rfl rfl (Nat.le_of_ble_eq_true rfl)) Ss Tt (by decide) (by decide) (by decide) (by decide) rfl fun b qb => ?_
    rcases qb with ⟨rfl, qb⟩ | ⟨rfl, qb⟩
    · skip
      refine ifF (pc' := 37) d_prog_25_method_2_34 (by decide : ¬ ((1 : Int32) = (0 : Int32))) rfl ?_
      refine iconst (pc' := 38) (v := (1 : Int32)) d_prog_25_method_2_37 rfl rfl ?_
      refine goto (pc' := 42) d_prog_25_method_2_38 (by decide) rfl ?_
      exact retI d_prog_25_method_2_42 rfl (Or.inr (Or.inl rfl)) rfl (by decide) (by decide) ⟨1, rfl, Or.inl ⟨rfl, qk, qb⟩, rfl⟩
    · skip
      refine ifT (pc' := 41) d_prog_25_method_2_34 (rfl : (0 : Int32) = (0 : Int32)) (by decide) rfl ?_
      refine iconst (pc' := 42) (v := (0 : Int32)) d_prog_25_method_2_41 rfl rfl ?_
      exact retI d_prog_25_method_2_42 rfl (Or.inr (Or.inl rfl)) rfl (by decide) (by decide) ⟨0, rfl, Or.inr ⟨rfl, fun q => qb q.2⟩, rfl⟩
  · skip
    refine acmp (pc' := 41) (v := (.ref ka)) (w := (.ref kb)) false d_prog_25_method_2_20 rfl rfl (decide_eq_false (fun q => qk (Value.ref.inj q))) (by decide) rfl ?_
    refine iconst (pc' := 42) (v := (0 : Int32)) d_prog_25_method_2_41 rfl rfl ?_
    exact retI d_prog_25_method_2_42 rfl (Or.inr (Or.inl rfl)) rfl (by decide) (by decide) ⟨0, rfl, Or.inr ⟨rfl, fun q => qk q.1⟩, rfl⟩
set_option maxRecDepth 65536 in
set_option maxHeartbeats 40000000 in
theorem rm_geN (l : Launch) (Z : State) (a0 : Array Value) (hw : ∀ d ∈ tables_1, d.before a0 Z = true) (hEL : EW Z a0 consts_1) (n0 : Nat) (a : Addr) (h : Heap)   :
    Met l false Z consts_1 n0 (⟨"com/example/berth/berth/engine/Group", "equals", "(Ljava/lang/Object;)Z"⟩ : MethodName) prog_25_method_2_code 3 (some .boolean) ({ frames := 2, cells := 0, slots := 0, locals := 28 } : Room) [] #[(.ref a), .null] [] h (fun v h' => v = some (.int 0) ∧ h' = h) := by
  refine Met.of_body (a0 := a0) (L0 := #[.val (.ref a), .val .null, .unset]) (plainFor_of_name (by first | (simp [plainName, overriddenIn]; done) | decide +kernel)) (fun m => by first | rfl | (simp [entryFrame, mkF, argsToLocals, Value.category]; done)) hw hEL (by decide) ?_
  refine aloadN (pc' := 1) d_prog_25_method_2_0 rfl rfl rfl ?_
  refine instanceofNull (pc' := 4) d_prog_25_method_2_1 rfl ?_
  refine ifT (pc' := 41) d_prog_25_method_2_4 (rfl : (0 : Int32) = (0 : Int32)) (by decide) rfl ?_
  refine iconst (pc' := 42) (v := (0 : Int32)) d_prog_25_method_2_41 rfl rfl ?_
  exact retI d_prog_25_method_2_42 rfl (Or.inr (Or.inl rfl)) rfl (by decide) (by decide) ⟨rfl, rfl⟩
set_option maxRecDepth 65536 in
set_option maxHeartbeats 40000000 in
theorem rm_geX (l : Launch) (Z : State) (a0 : Array Value) (hw : ∀ d ∈ tables_1, d.before a0 Z = true) (hEL : EW Z a0 consts_1) (n0 : Nat) (a b : Addr) (h : Heap)  (hA : Alien Z h b) :
    Met l false Z consts_1 n0 (⟨"com/example/berth/berth/engine/Group", "equals", "(Ljava/lang/Object;)Z"⟩ : MethodName) prog_25_method_2_code 3 (some .boolean) ({ frames := 2, cells := 0, slots := 0, locals := 28 } : Room) [] #[(.ref a), (.ref b)] [] h (fun v h' => v = some (.int 0) ∧ h' = h) := by
  refine Met.of_body (a0 := a0) (L0 := #[.val (.ref a), .val (.ref b), .unset]) (plainFor_of_name (by first | (simp [plainName, overriddenIn]; done) | decide +kernel)) (fun m => by first | rfl | (simp [entryFrame, mkF, argsToLocals, Value.category]; done)) hw hEL (by decide) ?_
  obtain ⟨D, Eb, hno⟩ := hA
  refine aloadN (pc' := 1) d_prog_25_method_2_0 rfl rfl rfl ?_
  refine instanceofN (i := 59) (pc' := 4) d_prog_25_method_2_1 rfl Eb hno rfl ?_
  refine ifT (pc' := 41) d_prog_25_method_2_4 (rfl : (0 : Int32) = (0 : Int32)) (by decide) rfl ?_
  refine iconst (pc' := 42) (v := (0 : Int32)) d_prog_25_method_2_41 rfl rfl ?_
  exact retI d_prog_25_method_2_42 rfl (Or.inr (Or.inl rfl)) rfl (by decide) (by decide) ⟨rfl, rfl⟩
theorem alien_str {Z : State} {a0 : Array Value} (hw : ∀ d ∈ tables_1, d.before a0 Z = true) {h : Heap} {b : Addr} (E : Exa Z h b "java/lang/String") : Alien Z h b := ⟨_, E, ns_no (hw _ (List.mem_of_getElem? (i := 93) rfl)) (hw _ (List.mem_of_getElem? (i := 1) rfl)) (NS.step (hw _ (List.mem_of_getElem? (i := 93) rfl)) (ns_root (hw _ (List.mem_of_getElem? (i := 75) rfl)) (hw _ (List.mem_of_getElem? (i := 1) rfl)) (by decide)) (by decide)) (by decide)⟩
theorem alien_kind {Z : State} {a0 : Array Value} (hw : ∀ d ∈ tables_1, d.before a0 Z = true) {h : Heap} {c0 c1 c2 : Addr} (hK : Ks Z c0 c1 c2) (O : Ext Z.heap h) (k : Int32) : Alien Z h (kq c0 c1 c2 k) := by
  unfold kq
  split
  · exact ⟨_, hK.1.2.ext O, ns_no (hw _ (List.mem_of_getElem? (i := 72) rfl)) (hw _ (List.mem_of_getElem? (i := 1) rfl)) (NS.step (hw _ (List.mem_of_getElem? (i := 72) rfl)) (NS.step (hw _ (List.mem_of_getElem? (i := 73) rfl)) (NS.step (hw _ (List.mem_of_getElem? (i := 74) rfl)) (ns_root (hw _ (List.mem_of_getElem? (i := 75) rfl)) (hw _ (List.mem_of_getElem? (i := 1) rfl)) (by decide)) (by decide)) (by decide)) (by decide)) (by decide)⟩
  · split
    · exact ⟨_, hK.2.1.2.ext O, ns_no (hw _ (List.mem_of_getElem? (i := 109) rfl)) (hw _ (List.mem_of_getElem? (i := 1) rfl)) (NS.step (hw _ (List.mem_of_getElem? (i := 109) rfl)) (NS.step (hw _ (List.mem_of_getElem? (i := 73) rfl)) (NS.step (hw _ (List.mem_of_getElem? (i := 74) rfl)) (ns_root (hw _ (List.mem_of_getElem? (i := 75) rfl)) (hw _ (List.mem_of_getElem? (i := 1) rfl)) (by decide)) (by decide)) (by decide)) (by decide)) (by decide)⟩
    · exact ⟨_, hK.2.2.2.ext O, ns_no (hw _ (List.mem_of_getElem? (i := 96) rfl)) (hw _ (List.mem_of_getElem? (i := 1) rfl)) (NS.step (hw _ (List.mem_of_getElem? (i := 96) rfl)) (NS.step (hw _ (List.mem_of_getElem? (i := 73) rfl)) (NS.step (hw _ (List.mem_of_getElem? (i := 74) rfl)) (ns_root (hw _ (List.mem_of_getElem? (i := 75) rfl)) (hw _ (List.mem_of_getElem? (i := 1) rfl)) (by decide)) (by decide)) (by decide)) (by decide)) (by decide)⟩
theorem kq_iff {c0 c1 c2 : Addr} {Z : State} (hK : Ks Z c0 c1 c2) {k k' : Int32} (h : t3 k) (h' : t3 k') : kq c0 c1 c2 k = kq c0 c1 c2 k' ↔ k = k' := by
  have e1 : c0 ≠ c1 := ne_exa hK.1.2 hK.2.1.2 (by decide)
  have e2 : c0 ≠ c2 := ne_exa hK.1.2 hK.2.2.2 (by decide)
  have e3 : c1 ≠ c2 := ne_exa hK.2.1.2 hK.2.2.2 (by decide)
  have a0 : kq c0 c1 c2 0 = c0 := rfl
  have a1 : kq c0 c1 c2 1 = c1 := rfl
  have a2 : kq c0 c1 c2 2 = c2 := rfl
  rcases h with rfl | rfl | rfl <;> rcases h' with rfl | rfl | rfl <;> simp only [a0, a1, a2] <;> constructor <;> intro q <;> first | rfl | exact absurd q e1 | exact absurd q e2 | exact absurd q e3 | exact absurd q.symm e1 | exact absurd q.symm e2 | exact absurd q.symm e3 | exact absurd q (by decide)
theorem idl_iff {n n' x z x' z' : Int32} (h : t3 n) (h' : t3 n') : idl n x z = idl n' x' z' ↔ n = n' ∧ (n < 1 ∨ x = x') ∧ (n < 2 ∨ z = z') := by
  have d0 : ((0 : Int32) < 1) := by decide
  have d1 : ((0 : Int32) < 2) := by decide
  have d2 : ¬ ((1 : Int32) < 1) := by decide
  have d3 : ((1 : Int32) < 2) := by decide
  have d4 : ¬ ((2 : Int32) < 1) := by decide
  have d5 : ¬ ((2 : Int32) < 2) := by decide
  have a0 : ∀ x z, idl 0 x z = [] := fun _ _ => rfl
  have a1 : ∀ x z, idl 1 x z = [x] := fun _ _ => rfl
  have a2 : ∀ x z, idl 2 x z = [x, z] := fun _ _ => rfl
  have c1 : ¬ (0 : Int32) = 1 := by decide
  have c2 : ¬ (0 : Int32) = 2 := by decide
  have c3 : ¬ (1 : Int32) = 0 := by decide
  have c4 : ¬ (1 : Int32) = 2 := by decide
  have c5 : ¬ (2 : Int32) = 0 := by decide
  have c6 : ¬ (2 : Int32) = 1 := by decide
  rcases h with rfl | rfl | rfl <;> rcases h' with rfl | rfl | rfl <;> simp only [a0, a1, a2, d0, d1, d2, d3, d4, d5, c1, c2, c3, c4, c5, c6, List.cons.injEq, and_true, true_and, false_and, true_or, false_or, or_true, reduceCtorEq, and_false, and_self]
set_option maxRecDepth 65536 in
set_option maxHeartbeats 40000000 in
theorem law_met (l : Launch) (Z : State) (a0 : Array Value) (hw : ∀ d ∈ tables_1, d.before a0 Z = true) (hEL : EW Z a0 consts_1) (n0 : Nat) (c0 c1 c2 : Addr) (i0 i1 i2 i3 i4 : Int32) (h : Heap)  (hK : Ks Z c0 c1 c2) (hB : Sets Z) :
    Met l false Z consts_1 n0 x code maxLocals ret room_1 tables_1 #[(.int i0), (.int i1), (.int i2), (.int i3), (.int i4)] [] h (fun v h' => v = some (.int 1)) := by
  refine Met.of_body (a0 := a0) (L0 := #[.val (.int i0), .val (.int i1), .val (.int i2), .val (.int i3), .val (.int i4), .unset, .unset, .unset, .unset, .unset, .unset, .unset, .unset, .unset, .unset, .unset, .unset]) (plainFor_of_name (by first | (simp [plainName, overriddenIn]; done) | decide +kernel)) (fun m => by first | rfl | (simp [entryFrame, mkF, argsToLocals, Value.category, maxLocals]; done)) hw hEL (by decide) ?_
  have J113 : ∀ k1 k2 n1 n2 x0 x1 y0 y1 : Int32, t3 k1 → t3 k2 → t3 n1 → t3 n2 → ok x0 → ok x1 → ok y0 → ok y1 → Wq l false Z consts_1 a0 n0 x code maxLocals ret room_1 h (fun v h' => v = some (.int 1)) [] h 0 0 113 #[.val (.int i0), .val (.int i1), .val (.int i2), .val (.int i3), .val (.int i4), .val (.int k1), .val (.int k2), .val (.int n1), .val (.int n2), .val (.int x0), .val (.int x1), .val (.int y0), .val (.int y1), .unset, .unset, .unset, .unset] [] := by
    intro k1 k2 n1 n2 x0 x1 y0 y1 hk1 hk2 hn1 hn2 hx0 hx1 hy0 hy1
    refine new (i := 0) (i2 := 1) (i3 := 2) (pc' := 116) at_113 rfl rfl rfl (by decide) (by decide) rfl fun h90 a91 g92 E93 A94 D95 => ?_
    have F_kind_a91 : Fld Z h90 a91 "com/example/berth/berth/engine/Group" "kind" "Lcom/example/berth/berth/engine/GroupKind;" .null := D95 (Or.inr (hw _ (List.mem_of_getElem? (i := 51) rfl))) (ty := (.object "com/example/berth/berth/engine/GroupKind")) (by decide)
    have F_id_a91 : Fld Z h90 a91 "com/example/berth/berth/engine/Group" "id" "Ljava/lang/String;" .null := D95 (Or.inr (hw _ (List.mem_of_getElem? (i := 53) rfl))) (ty := (.object "java/lang/String")) (by decide)
    refine dup (pc' := 117) at_116 rfl rfl ?_
    refine iload (pc' := 119) at_117 rfl rfl ?_
    refine call (i := 6) (i2 := 5) (Wd := 2) (pc' := 122) (kStatic (i := 3) (i2 := 4) (i3 := 5) (i4 := 6) (argsL := [(.int k1)]) (S' := [(.ref a91), (.ref a91)]) (Wd := 2) at_119 rfl rfl rfl rfl (by decide) rfl pd_9 rfl rfl (Nat.le_of_ble_eq_true rfl)) (rm_kind l Z a0 hw hEL n0 c0 c1 c2 k1 _ hK hB) rfl rfl (by simp) (by decide) (by decide) (by decide) (by decide) rfl fun v_ h96 P97 sz98 => ?_
    obtain ⟨rfl, e99⟩ := P97
    rw [e99]
    refine at' (ce' := 1) (sl' := 2) (pc' := 122) (L' := #[.val (.int i0), .val (.int i1), .val (.int i2), .val (.int i3), .val (.int i4), .val (.int k1), .val (.int k2), .val (.int n1), .val (.int n2), .val (.int x0), .val (.int x1), .val (.int y0), .val (.int y1), .unset, .unset, .unset, .unset]) (S' := [(.ref (kq c0 c1 c2 k1)), (.ref a91), (.ref a91)]) rfl rfl rfl rfl rfl ?_
    refine iload (pc' := 124) at_122 rfl rfl ?_
    refine iload (pc' := 126) at_124 rfl rfl ?_
    refine iload (pc' := 128) at_126 rfl rfl ?_
    refine call (i := 12) (i2 := 5) (Wd := 3) (pc' := 131) (kStatic (i := 10) (i2 := 11) (i3 := 5) (i4 := 12) (argsL := [(.int n1), (.int x0), (.int x1)]) (S' := [(.ref (kq c0 c1 c2 k1)), (.ref a91), (.ref a91)]) (Wd := 3) at_128 rfl rfl rfl rfl (by decide) rfl pd_10 rfl rfl (Nat.le_of_ble_eq_true rfl)) (rm_id l Z a0 hw hEL n0 n1 x0 x1 _ hB hx0 hx1) rfl rfl (by simp) (by decide) (by decide) (by decide) (by decide) rfl fun v_ h100 P101 sz102 => ?_
    obtain ⟨sa, rfl, Xa, Sa⟩ := P101
    replace A94 := A94.ext Xa
    replace F_kind_a91 := F_kind_a91.ext Xa
    replace F_id_a91 := F_id_a91.ext Xa
    refine at' (ce' := 7) (sl' := 18) (pc' := 131) (L' := #[.val (.int i0), .val (.int i1), .val (.int i2), .val (.int i3), .val (.int i4), .val (.int k1), .val (.int k2), .val (.int n1), .val (.int n2), .val (.int x0), .val (.int x1), .val (.int y0), .val (.int y1), .unset, .unset, .unset, .unset]) (S' := [(.ref sa), (.ref (kq c0 c1 c2 k1)), (.ref a91), (.ref a91)]) rfl rfl rfl rfl rfl ?_
    have ne_sa : sa ≠ a91 := fun q => absurd (Sa.exa) (by intro r; exact Exa.ne r A94 (by decide) q)
    refine call (i := 37) (i2 := 2) (Wd := 1) (pc' := 134) (kInit (i := 35) (i2 := 36) (i4 := 37) (a := a91) (argsL := [(.ref (kq c0 c1 c2 k1)), (.ref sa)]) (S' := [(.ref a91)]) (Wd := 1) at_131 rfl rfl rfl rfl (by decide) rfl pd_11 rfl rfl (Nat.le_of_ble_eq_true rfl)) (rm_gi l Z a0 hw hEL n0 a91 (kq c0 c1 c2 k1) sa _ A94 F_kind_a91 F_id_a91) rfl rfl (by simp) (by decide) (by decide) (by decide) (by decide) rfl fun v_ h103 P104 sz105 => ?_
    obtain ⟨rfl, Ka, Ea, Fka, Fia⟩ := P104
    replace Sa := Sa.keep1 Ka ne_sa A94 (hw _ (List.mem_of_getElem? (i := 1) rfl))
    replace A94 := A94.keep Ka
    refine at' (ce' := 11) (sl' := 50) (pc' := 134) (L' := #[.val (.int i0), .val (.int i1), .val (.int i2), .val (.int i3), .val (.int i4), .val (.int k1), .val (.int k2), .val (.int n1), .val (.int n2), .val (.int x0), .val (.int x1), .val (.int y0), .val (.int y1), .unset, .unset, .unset, .unset]) (S' := [(.ref a91)]) rfl rfl rfl rfl rfl ?_
    refine astore (pc' := 136) (L' := #[.val (.int i0), .val (.int i1), .val (.int i2), .val (.int i3), .val (.int i4), .val (.int k1), .val (.int k2), .val (.int n1), .val (.int n2), .val (.int x0), .val (.int x1), .val (.int y0), .val (.int y1), .val (.ref a91), .unset, .unset, .unset]) at_134 rfl rfl rfl ?_
    refine new (i := 0) (i2 := 1) (i3 := 2) (pc' := 139) at_136 rfl rfl rfl (by decide) (by decide) rfl fun h106 a107 g108 E109 A110 D111 => ?_
    have ne_sa_a107 : sa ≠ a107 := Nat.ne_of_lt (by rw [g108]; exact Sa.lt)
    have ne_a91_a107 : a91 ≠ a107 := Nat.ne_of_lt (by rw [g108]; exact Ea.lt)
    replace Sa := Sa.ext E109
    replace Ea := Ea.ext E109
    replace Fka := Fka.ext E109
    replace Fia := Fia.ext E109
    have F_kind_a107 : Fld Z h106 a107 "com/example/berth/berth/engine/Group" "kind" "Lcom/example/berth/berth/engine/GroupKind;" .null := D111 (Or.inr (hw _ (List.mem_of_getElem? (i := 51) rfl))) (ty := (.object "com/example/berth/berth/engine/GroupKind")) (by decide)
    have F_id_a107 : Fld Z h106 a107 "com/example/berth/berth/engine/Group" "id" "Ljava/lang/String;" .null := D111 (Or.inr (hw _ (List.mem_of_getElem? (i := 53) rfl))) (ty := (.object "java/lang/String")) (by decide)
    refine dup (pc' := 140) at_139 rfl rfl ?_
    refine iload (pc' := 142) at_140 rfl rfl ?_
    refine call (i := 6) (i2 := 5) (Wd := 2) (pc' := 145) (kStatic (i := 3) (i2 := 4) (i3 := 5) (i4 := 6) (argsL := [(.int k2)]) (S' := [(.ref a107), (.ref a107)]) (Wd := 2) at_142 rfl rfl rfl rfl (by decide) rfl pd_9 rfl rfl (Nat.le_of_ble_eq_true rfl)) (rm_kind l Z a0 hw hEL n0 c0 c1 c2 k2 _ hK hB) rfl rfl (by simp) (by decide) (by decide) (by decide) (by decide) rfl fun v_ h112 P113 sz114 => ?_
    obtain ⟨rfl, e115⟩ := P113
    rw [e115]
    refine at' (ce' := 12) (sl' := 52) (pc' := 145) (L' := #[.val (.int i0), .val (.int i1), .val (.int i2), .val (.int i3), .val (.int i4), .val (.int k1), .val (.int k2), .val (.int n1), .val (.int n2), .val (.int x0), .val (.int x1), .val (.int y0), .val (.int y1), .val (.ref a91), .unset, .unset, .unset]) (S' := [(.ref (kq c0 c1 c2 k2)), (.ref a107), (.ref a107)]) rfl rfl rfl rfl rfl ?_
    refine iload (pc' := 147) at_145 rfl rfl ?_
    refine iload (pc' := 149) at_147 rfl rfl ?_
    refine iload (pc' := 151) at_149 rfl rfl ?_
    refine call (i := 12) (i2 := 5) (Wd := 3) (pc' := 154) (kStatic (i := 10) (i2 := 11) (i3 := 5) (i4 := 12) (argsL := [(.int n2), (.int y0), (.int y1)]) (S' := [(.ref (kq c0 c1 c2 k2)), (.ref a107), (.ref a107)]) (Wd := 3) at_151 rfl rfl rfl rfl (by decide) rfl pd_10 rfl rfl (Nat.le_of_ble_eq_true rfl)) (rm_id l Z a0 hw hEL n0 n2 y0 y1 _ hB hy0 hy1) rfl rfl (by simp) (by decide) (by decide) (by decide) (by decide) rfl fun v_ h116 P117 sz118 => ?_
    obtain ⟨sb, rfl, Xb, Sb⟩ := P117
    replace Sa := Sa.ext Xb
    replace Ea := Ea.ext Xb
    replace Fka := Fka.ext Xb
    replace Fia := Fia.ext Xb
    replace A110 := A110.ext Xb
    replace F_kind_a107 := F_kind_a107.ext Xb
    replace F_id_a107 := F_id_a107.ext Xb
    refine at' (ce' := 18) (sl' := 68) (pc' := 154) (L' := #[.val (.int i0), .val (.int i1), .val (.int i2), .val (.int i3), .val (.int i4), .val (.int k1), .val (.int k2), .val (.int n1), .val (.int n2), .val (.int x0), .val (.int x1), .val (.int y0), .val (.int y1), .val (.ref a91), .unset, .unset, .unset]) (S' := [(.ref sb), (.ref (kq c0 c1 c2 k2)), (.ref a107), (.ref a107)]) rfl rfl rfl rfl rfl ?_
    have ne_sb : sb ≠ a107 := fun q => absurd (Sb.exa) (by intro r; exact Exa.ne r A110 (by decide) q)
    refine call (i := 37) (i2 := 2) (Wd := 1) (pc' := 157) (kInit (i := 35) (i2 := 36) (i4 := 37) (a := a107) (argsL := [(.ref (kq c0 c1 c2 k2)), (.ref sb)]) (S' := [(.ref a107)]) (Wd := 1) at_154 rfl rfl rfl rfl (by decide) rfl pd_11 rfl rfl (Nat.le_of_ble_eq_true rfl)) (rm_gi l Z a0 hw hEL n0 a107 (kq c0 c1 c2 k2) sb _ A110 F_kind_a107 F_id_a107) rfl rfl (by simp) (by decide) (by decide) (by decide) (by decide) rfl fun v_ h119 P120 sz121 => ?_
    obtain ⟨rfl, Kb, Eb, Fkb, Fib⟩ := P120
    replace Sa := Sa.keep1 Kb ne_sa_a107 A110 (hw _ (List.mem_of_getElem? (i := 1) rfl))
    replace Sb := Sb.keep1 Kb ne_sb A110 (hw _ (List.mem_of_getElem? (i := 1) rfl))
    replace Ea := Ea.keep Kb
    replace Fka := Fka.keep Kb (ninS ne_a91_a107 nin0)
    replace Fia := Fia.keep Kb (ninS ne_a91_a107 nin0)
    replace A110 := A110.keep Kb
    refine at' (ce' := 22) (sl' := 100) (pc' := 157) (L' := #[.val (.int i0), .val (.int i1), .val (.int i2), .val (.int i3), .val (.int i4), .val (.int k1), .val (.int k2), .val (.int n1), .val (.int n2), .val (.int x0), .val (.int x1), .val (.int y0), .val (.int y1), .val (.ref a91), .unset, .unset, .unset]) (S' := [(.ref a107)]) rfl rfl rfl rfl rfl ?_
    refine astore (pc' := 159) (L' := #[.val (.int i0), .val (.int i1), .val (.int i2), .val (.int i3), .val (.int i4), .val (.int k1), .val (.int k2), .val (.int n1), .val (.int n2), .val (.int x0), .val (.int x1), .val (.int y0), .val (.int y1), .val (.ref a91), .val (.ref a107), .unset, .unset]) at_157 rfl rfl rfl ?_
    have J204 : ∀ ee : Int32, ((ee = 1 ∧ (kq c0 c1 c2 k1 = kq c0 c1 c2 k2 ∧ idl n1 x0 x1 = idl n2 y0 y1)) ∨ (ee = 0 ∧ ¬ (kq c0 c1 c2 k1 = kq c0 c1 c2 k2 ∧ idl n1 x0 x1 = idl n2 y0 y1))) → Wq l false Z consts_1 a0 n0 x code maxLocals ret room_1 h (fun v h' => v = some (.int 1)) [a107, a91] h119 22 100 204 #[.val (.int i0), .val (.int i1), .val (.int i2), .val (.int i3), .val (.int i4), .val (.int k1), .val (.int k2), .val (.int n1), .val (.int n2), .val (.int x0), .val (.int x1), .val (.int y0), .val (.int y1), .val (.ref a91), .val (.ref a107), .unset, .unset] [(.int ee)] := by
      intro ee hee
      refine istore (pc' := 206) (L' := #[.val (.int i0), .val (.int i1), .val (.int i2), .val (.int i3), .val (.int i4), .val (.int k1), .val (.int k2), .val (.int n1), .val (.int n2), .val (.int x0), .val (.int x1), .val (.int y0), .val (.int y1), .val (.ref a91), .val (.ref a107), .val (.int ee), .unset]) at_204 rfl rfl ?_
      have J230 : ∀ bb : Addr, Alien Z h119 bb → Wq l false Z consts_1 a0 n0 x code maxLocals ret room_1 h (fun v h' => v = some (.int 1)) [a107, a91] h119 22 100 230 #[.val (.int i0), .val (.int i1), .val (.int i2), .val (.int i3), .val (.int i4), .val (.int k1), .val (.int k2), .val (.int n1), .val (.int n2), .val (.int x0), .val (.int x1), .val (.int y0), .val (.int y1), .val (.ref a91), .val (.ref a107), .val (.int ee), .val (.ref bb)] [] := by
        intro bb hbb
        refine aload (pc' := 232) at_230 rfl rfl rfl ?_
        refine aload (pc' := 234) at_232 rfl rfl rfl ?_
        refine call (i := 58) (i2 := 2) (Wd := 0) (pc' := 237) (kVirt (i := 54) (i2 := 55) (i3 := 57) (i4 := 56) (C := "com/example/berth/berth/engine/Group") (a := a91) (argsL := [(.ref a107)]) (S' := []) (Wd := 0) at_234 rfl rfl rfl rfl Ea (by decide) rfl pd_8 rfl rfl (Nat.le_of_ble_eq_true rfl)) (rm_ge l Z a0 hw hEL n0 a91 a107 _ _ sa sb (idl n1 x0 x1) (idl n2 y0 y1) _ Ea Fka Fia Sa Eb Fkb Fib Sb hB) rfl rfl (by simp) (by decide) (by decide) (by decide) (by decide) rfl fun v_ h122 P123 sz124 => ?_
        obtain ⟨r1, rfl, hr1, er1⟩ := P123
        rw [er1]
        refine at' (ce' := 22) (sl' := 100) (pc' := 237) (L' := #[.val (.int i0), .val (.int i1), .val (.int i2), .val (.int i3), .val (.int i4), .val (.int k1), .val (.int k2), .val (.int n1), .val (.int n2), .val (.int x0), .val (.int x1), .val (.int y0), .val (.int y1), .val (.ref a91), .val (.ref a107), .val (.int ee), .val (.ref bb)]) (S' := [(.int r1)]) rfl rfl rfl rfl rfl ?_
        refine iload (pc' := 239) at_237 rfl rfl ?_
        refine icmpF (pc' := 242) at_239 (both hr1 hee Iff.rfl : r1 = ee) rfl ?_
        refine aload (pc' := 244) at_242 rfl rfl rfl ?_
        refine aload (pc' := 246) at_244 rfl rfl rfl ?_
        refine call (i := 58) (i2 := 2) (Wd := 0) (pc' := 249) (kVirt (i := 54) (i2 := 55) (i3 := 57) (i4 := 56) (C := "com/example/berth/berth/engine/Group") (a := a107) (argsL := [(.ref a91)]) (S' := []) (Wd := 0) at_246 rfl rfl rfl rfl Eb (by decide) rfl pd_8 rfl rfl (Nat.le_of_ble_eq_true rfl)) (rm_ge l Z a0 hw hEL n0 a107 a91 _ _ sb sa (idl n2 y0 y1) (idl n1 x0 x1) _ Eb Fkb Fib Sb Ea Fka Fia Sa hB) rfl rfl (by simp) (by decide) (by decide) (by decide) (by decide) rfl fun v_ h125 P126 sz127 => ?_
        obtain ⟨r2, rfl, hr2, er2⟩ := P126
        rw [er2]
        refine at' (ce' := 22) (sl' := 100) (pc' := 249) (L' := #[.val (.int i0), .val (.int i1), .val (.int i2), .val (.int i3), .val (.int i4), .val (.int k1), .val (.int k2), .val (.int n1), .val (.int n2), .val (.int x0), .val (.int x1), .val (.int y0), .val (.int y1), .val (.ref a91), .val (.ref a107), .val (.int ee), .val (.ref bb)]) (S' := [(.int r2)]) rfl rfl rfl rfl rfl ?_
        refine iload (pc' := 251) at_249 rfl rfl ?_
        refine icmpF (pc' := 254) at_251 (both hr2 hee ⟨fun q => ⟨q.1.symm, q.2.symm⟩, fun q => ⟨q.1.symm, q.2.symm⟩⟩ : r2 = ee) rfl ?_
        refine aload (pc' := 256) at_254 rfl rfl rfl ?_
        refine aload (pc' := 258) at_256 rfl rfl rfl ?_
        refine call (i := 58) (i2 := 2) (Wd := 0) (pc' := 261) (kVirt (i := 54) (i2 := 55) (i3 := 57) (i4 := 56) (C := "com/example/berth/berth/engine/Group") (a := a91) (argsL := [(.ref a91)]) (S' := []) (Wd := 0) at_258 rfl rfl rfl rfl Ea (by decide) rfl pd_8 rfl rfl (Nat.le_of_ble_eq_true rfl)) (rm_ge l Z a0 hw hEL n0 a91 a91 _ _ sa sa (idl n1 x0 x1) (idl n1 x0 x1) _ Ea Fka Fia Sa Ea Fka Fia Sa hB) rfl rfl (by simp) (by decide) (by decide) (by decide) (by decide) rfl fun v_ h128 P129 sz130 => ?_
        obtain ⟨r3, rfl, hr3, er3⟩ := P129
        rw [er3]
        refine at' (ce' := 22) (sl' := 100) (pc' := 261) (L' := #[.val (.int i0), .val (.int i1), .val (.int i2), .val (.int i3), .val (.int i4), .val (.int k1), .val (.int k2), .val (.int n1), .val (.int n2), .val (.int x0), .val (.int x1), .val (.int y0), .val (.int y1), .val (.ref a91), .val (.ref a107), .val (.int ee), .val (.ref bb)]) (S' := [(.int r3)]) rfl rfl rfl rfl rfl ?_
        obtain rfl := yes hr3 ⟨rfl, rfl⟩
        refine ifF (pc' := 264) at_261 (by decide : ¬ ((1 : Int32) = (0 : Int32))) rfl ?_
        refine aload (pc' := 266) at_264 rfl rfl rfl ?_
        refine aconst_null (pc' := 267) at_266 rfl ?_
        refine call (i := 58) (i2 := 2) (Wd := 0) (pc' := 270) (kVirt (i := 54) (i2 := 55) (i3 := 57) (i4 := 56) (C := "com/example/berth/berth/engine/Group") (a := a91) (argsL := [.null]) (S' := []) (Wd := 0) at_267 rfl rfl rfl rfl Ea (by decide) rfl pd_8 rfl rfl (Nat.le_of_ble_eq_true rfl)) (rm_geN l Z a0 hw hEL n0 a91 _) rfl rfl (by simp) (by decide) (by decide) (by decide) (by decide) rfl fun v_ h131 P132 sz133 => ?_
        obtain ⟨rfl, e134⟩ := P132
        rw [e134]
        refine at' (ce' := 22) (sl' := 100) (pc' := 270) (L' := #[.val (.int i0), .val (.int i1), .val (.int i2), .val (.int i3), .val (.int i4), .val (.int k1), .val (.int k2), .val (.int n1), .val (.int n2), .val (.int x0), .val (.int x1), .val (.int y0), .val (.int y1), .val (.ref a91), .val (.ref a107), .val (.int ee), .val (.ref bb)]) (S' := [(.int (0 : Int32))]) rfl rfl rfl rfl rfl ?_
        refine ifF (pc' := 273) at_270 (rfl : (0 : Int32) = (0 : Int32)) rfl ?_
        refine aload (pc' := 275) at_273 rfl rfl rfl ?_
        refine aload (pc' := 277) at_275 rfl rfl rfl ?_
        refine call (i := 58) (i2 := 2) (Wd := 0) (pc' := 280) (kVirt (i := 54) (i2 := 55) (i3 := 57) (i4 := 56) (C := "com/example/berth/berth/engine/Group") (a := a91) (argsL := [(.ref bb)]) (S' := []) (Wd := 0) at_277 rfl rfl rfl rfl Ea (by decide) rfl pd_8 rfl rfl (Nat.le_of_ble_eq_true rfl)) (rm_geX l Z a0 hw hEL n0 a91 bb _ hbb) rfl rfl (by simp) (by decide) (by decide) (by decide) (by decide) rfl fun v_ h135 P136 sz137 => ?_
        obtain ⟨rfl, e138⟩ := P136
        rw [e138]
        refine at' (ce' := 22) (sl' := 100) (pc' := 280) (L' := #[.val (.int i0), .val (.int i1), .val (.int i2), .val (.int i3), .val (.int i4), .val (.int k1), .val (.int k2), .val (.int n1), .val (.int n2), .val (.int x0), .val (.int x1), .val (.int y0), .val (.int y1), .val (.ref a91), .val (.ref a107), .val (.int ee), .val (.ref bb)]) (S' := [(.int (0 : Int32))]) rfl rfl rfl rfl rfl ?_
        refine ifF (pc' := 283) at_280 (rfl : (0 : Int32) = (0 : Int32)) rfl ?_
        refine iconst (pc' := 284) (v := (1 : Int32)) at_283 rfl rfl ?_
        refine goto (pc' := 288) at_284 (by decide) rfl ?_
        exact retI at_288 rfl (Or.inr (Or.inl rfl)) rfl (by decide) (by decide) rfl
      refine iload (pc' := 208) at_206 rfl rfl ?_
      refine iconst (pc' := 209) (v := (4 : Int32)) at_208 rfl rfl ?_
      refine iand (pc' := 210) at_209 rfl ?_
      refine ifc (pc' := 223) (pcF := 213) at_210 (by decide) rfl rfl (fun (qm : (i4 &&& (4 : Int32)) = (0 : Int32)) => ?_) (fun (qm : ¬ ((i4 &&& (4 : Int32)) = (0 : Int32))) => ?_)
      · skip
        refine iload (pc' := 225) at_223 rfl rfl ?_
        refine call (i := 6) (i2 := 5) (Wd := 0) (pc' := 228) (kStatic (i := 3) (i2 := 4) (i3 := 5) (i4 := 6) (argsL := [(.int k1)]) (S' := []) (Wd := 0) at_225 rfl rfl rfl rfl (by decide) rfl pd_9 rfl rfl (Nat.le_of_ble_eq_true rfl)) (rm_kind l Z a0 hw hEL n0 c0 c1 c2 k1 _ hK hB) rfl rfl (by simp) (by decide) (by decide) (by decide) (by decide) rfl fun v_ h143 P144 sz145 => ?_
        obtain ⟨rfl, e146⟩ := P144
        rw [e146]
        refine at' (ce' := 22) (sl' := 100) (pc' := 228) (L' := #[.val (.int i0), .val (.int i1), .val (.int i2), .val (.int i3), .val (.int i4), .val (.int k1), .val (.int k2), .val (.int n1), .val (.int n2), .val (.int x0), .val (.int x1), .val (.int y0), .val (.int y1), .val (.ref a91), .val (.ref a107), .val (.int ee), .unset]) (S' := [(.ref (kq c0 c1 c2 k1))]) rfl rfl rfl rfl rfl ?_
        refine astore (pc' := 230) (L' := #[.val (.int i0), .val (.int i1), .val (.int i2), .val (.int i3), .val (.int i4), .val (.int k1), .val (.int k2), .val (.int n1), .val (.int n2), .val (.int x0), .val (.int x1), .val (.int y0), .val (.int y1), .val (.ref a91), .val (.ref a107), .val (.int ee), .val (.ref (kq c0 c1 c2 k1))]) at_228 rfl rfl rfl ?_
        refine old fun O _ => ?_
        exact J230 _ (alien_kind hw hK O.2 k1)
      · skip
        refine aload (pc' := 215) at_213 rfl rfl rfl ?_
        refine call (i := 92) (i2 := 2) (Wd := 0) (pc' := 218) (kVirt (i := 88) (i2 := 89) (i3 := 91) (i4 := 90) (C := "com/example/berth/berth/engine/Group") (a := a91) (argsL := []) (S' := []) (Wd := 0) at_215 rfl rfl rfl rfl Ea (by decide) rfl pd_12 rfl rfl (Nat.le_of_ble_eq_true rfl)) (rm_gid l Z a0 hw hEL n0 a91 sa _ Fia) rfl rfl (by simp) (by decide) (by decide) (by decide) (by decide) rfl fun v_ h139 P140 sz141 => ?_
        obtain ⟨rfl, e142⟩ := P140
        rw [e142]
        refine at' (ce' := 22) (sl' := 100) (pc' := 218) (L' := #[.val (.int i0), .val (.int i1), .val (.int i2), .val (.int i3), .val (.int i4), .val (.int k1), .val (.int k2), .val (.int n1), .val (.int n2), .val (.int x0), .val (.int x1), .val (.int y0), .val (.int y1), .val (.ref a91), .val (.ref a107), .val (.int ee), .unset]) (S' := [(.ref sa)]) rfl rfl rfl rfl rfl ?_
        refine astore (pc' := 220) (L' := #[.val (.int i0), .val (.int i1), .val (.int i2), .val (.int i3), .val (.int i4), .val (.int k1), .val (.int k2), .val (.int n1), .val (.int n2), .val (.int x0), .val (.int x1), .val (.int y0), .val (.int y1), .val (.ref a91), .val (.ref a107), .val (.int ee), .val (.ref sa)]) at_218 rfl rfl rfl ?_
        refine goto (pc' := 230) at_220 (by decide) rfl ?_
        exact J230 _ (alien_str hw Sa.exa)
    have hP : (kq c0 c1 c2 k1 = kq c0 c1 c2 k2 ∧ idl n1 x0 x1 = idl n2 y0 y1) ↔ k1 = k2 ∧ n1 = n2 ∧ (n1 < 1 ∨ x0 = y0) ∧ (n1 < 2 ∨ x1 = y1) := by rw [kq_iff hK hk1 hk2, idl_iff hn1 hn2]
    refine iload (pc' := 161) at_159 rfl rfl ?_
    refine iload (pc' := 163) at_161 rfl rfl ?_
    refine icmp (pc' := 203) (pcF := 166) at_163 (by decide) rfl rfl (fun (qk : ¬ (k1 = k2)) => ?_) (fun (qk : k1 = k2) => ?_)
    · skip
      refine iconst (pc' := 204) (v := (0 : Int32)) at_203 rfl rfl ?_
      exact J204 _ (Or.inr ⟨rfl, fun q => qk (hP.mp q).1⟩)
    · skip
      refine iload (pc' := 168) at_166 rfl rfl ?_
      refine iload (pc' := 170) at_168 rfl rfl ?_
      refine icmp (pc' := 203) (pcF := 173) at_170 (by decide) rfl rfl (fun (qn : ¬ (n1 = n2)) => ?_) (fun (qn : n1 = n2) => ?_)
      · skip
        refine iconst (pc' := 204) (v := (0 : Int32)) at_203 rfl rfl ?_
        exact J204 _ (Or.inr ⟨rfl, fun q => qn (hP.mp q).2.1⟩)
      · skip
        refine iload (pc' := 175) at_173 rfl rfl ?_
        refine iconst (pc' := 176) (v := (1 : Int32)) at_175 rfl rfl ?_
        refine icmp (pc' := 186) (pcF := 179) at_176 (by decide) rfl rfl (fun (ql1 : n1 < (1 : Int32)) => ?_) (fun (ql1 : ¬ (n1 < (1 : Int32))) => ?_)
        · skip
          refine iload (pc' := 188) at_186 rfl rfl ?_
          refine iconst (pc' := 189) (v := (2 : Int32)) at_188 rfl rfl ?_
          refine icmp (pc' := 199) (pcF := 192) at_189 (by decide) rfl rfl (fun (ql2 : n1 < (2 : Int32)) => ?_) (fun (ql2 : ¬ (n1 < (2 : Int32))) => ?_)
          · skip
            refine iconst (pc' := 200) (v := (1 : Int32)) at_199 rfl rfl ?_
            refine goto (pc' := 204) at_200 (by decide) rfl ?_
            exact J204 _ (Or.inl ⟨rfl, hP.mpr ⟨qk, qn, Or.inl ql1, Or.inl ql2⟩⟩)
          · skip
            refine iload (pc' := 194) at_192 rfl rfl ?_
            refine iload (pc' := 196) at_194 rfl rfl ?_
            refine icmp (pc' := 203) (pcF := 199) at_196 (by decide) rfl rfl (fun (qc2 : ¬ (x1 = y1)) => ?_) (fun (qc2 : x1 = y1) => ?_)
            · skip
              refine iconst (pc' := 204) (v := (0 : Int32)) at_203 rfl rfl ?_
              exact J204 _ (Or.inr ⟨rfl, fun q => (hP.mp q).2.2.2.elim ql2 qc2⟩)
            · skip
              refine iconst (pc' := 200) (v := (1 : Int32)) at_199 rfl rfl ?_
              refine goto (pc' := 204) at_200 (by decide) rfl ?_
              exact J204 _ (Or.inl ⟨rfl, hP.mpr ⟨qk, qn, Or.inl ql1, Or.inr qc2⟩⟩)
        · skip
          refine iload (pc' := 181) at_179 rfl rfl ?_
          refine iload (pc' := 183) at_181 rfl rfl ?_
          refine icmp (pc' := 203) (pcF := 186) at_183 (by decide) rfl rfl (fun (qc1 : ¬ (x0 = y0)) => ?_) (fun (qc1 : x0 = y0) => ?_)
          · skip
            refine iconst (pc' := 204) (v := (0 : Int32)) at_203 rfl rfl ?_
            exact J204 _ (Or.inr ⟨rfl, fun q => (hP.mp q).2.2.1.elim ql1 qc1⟩)
          · skip
            refine iload (pc' := 188) at_186 rfl rfl ?_
            refine iconst (pc' := 189) (v := (2 : Int32)) at_188 rfl rfl ?_
            refine icmp (pc' := 199) (pcF := 192) at_189 (by decide) rfl rfl (fun (ql2 : n1 < (2 : Int32)) => ?_) (fun (ql2 : ¬ (n1 < (2 : Int32))) => ?_)
            · skip
              refine iconst (pc' := 200) (v := (1 : Int32)) at_199 rfl rfl ?_
              refine goto (pc' := 204) at_200 (by decide) rfl ?_
              exact J204 _ (Or.inl ⟨rfl, hP.mpr ⟨qk, qn, Or.inr qc1, Or.inl ql2⟩⟩)
            · skip
              refine iload (pc' := 194) at_192 rfl rfl ?_
              refine iload (pc' := 196) at_194 rfl rfl ?_
              refine icmp (pc' := 203) (pcF := 199) at_196 (by decide) rfl rfl (fun (qc2 : ¬ (x1 = y1)) => ?_) (fun (qc2 : x1 = y1) => ?_)
              · skip
                refine iconst (pc' := 204) (v := (0 : Int32)) at_203 rfl rfl ?_
                exact J204 _ (Or.inr ⟨rfl, fun q => (hP.mp q).2.2.2.elim ql2 qc2⟩)
              · skip
                refine iconst (pc' := 200) (v := (1 : Int32)) at_199 rfl rfl ?_
                refine goto (pc' := 204) at_200 (by decide) rfl ?_
                exact J204 _ (Or.inl ⟨rfl, hP.mpr ⟨qk, qn, Or.inr qc1, Or.inr qc2⟩⟩)
  refine iloadN (pc' := 1) at_0 rfl rfl ?_
  refine sipush (pc' := 4) (v := (255 : Int32)) at_1 rfl rfl ?_
  refine iand (pc' := 5) at_4 rfl ?_
  refine iconst (pc' := 6) (v := (3 : Int32)) at_5 rfl rfl ?_
  refine irem (pc' := 7) at_6 (by decide) rfl ?_
  refine istore (pc' := 9) (L' := #[.val (.int i0), .val (.int i1), .val (.int i2), .val (.int i3), .val (.int i4), .val (.int ((i0 &&& (255 : Int32)) % (3 : Int32))), .unset, .unset, .unset, .unset, .unset, .unset, .unset, .unset, .unset, .unset, .unset]) at_7 rfl rfl ?_
  refine iloadN (pc' := 10) at_9 rfl rfl ?_
  refine bipush (pc' := 12) (v := (8 : Int32)) at_10 rfl rfl ?_
  refine iushr (pc' := 13) at_12 rfl ?_
  refine sipush (pc' := 16) (v := (255 : Int32)) at_13 rfl rfl ?_
  refine iand (pc' := 17) at_16 rfl ?_
  refine iconst (pc' := 18) (v := (3 : Int32)) at_17 rfl rfl ?_
  refine irem (pc' := 19) at_18 (by decide) rfl ?_
  refine istore (pc' := 21) (L' := #[.val (.int i0), .val (.int i1), .val (.int i2), .val (.int i3), .val (.int i4), .val (.int ((i0 &&& (255 : Int32)) % (3 : Int32))), .val (.int ((((i0.toUInt32 >>> ((8 : Int32) &&& 31).toUInt32).toInt32) &&& (255 : Int32)) % (3 : Int32))), .unset, .unset, .unset, .unset, .unset, .unset, .unset, .unset, .unset, .unset]) at_19 rfl rfl ?_
  refine iloadN (pc' := 22) at_21 rfl rfl ?_
  refine sipush (pc' := 25) (v := (255 : Int32)) at_22 rfl rfl ?_
  refine iand (pc' := 26) at_25 rfl ?_
  refine iconst (pc' := 27) (v := (3 : Int32)) at_26 rfl rfl ?_
  refine irem (pc' := 28) at_27 (by decide) rfl ?_
  refine istore (pc' := 30) (L' := #[.val (.int i0), .val (.int i1), .val (.int i2), .val (.int i3), .val (.int i4), .val (.int ((i0 &&& (255 : Int32)) % (3 : Int32))), .val (.int ((((i0.toUInt32 >>> ((8 : Int32) &&& 31).toUInt32).toInt32) &&& (255 : Int32)) % (3 : Int32))), .val (.int ((i1 &&& (255 : Int32)) % (3 : Int32))), .unset, .unset, .unset, .unset, .unset, .unset, .unset, .unset, .unset]) at_28 rfl rfl ?_
  refine iloadN (pc' := 31) at_30 rfl rfl ?_
  refine bipush (pc' := 33) (v := (8 : Int32)) at_31 rfl rfl ?_
  refine iushr (pc' := 34) at_33 rfl ?_
  refine sipush (pc' := 37) (v := (255 : Int32)) at_34 rfl rfl ?_
  refine iand (pc' := 38) at_37 rfl ?_
  refine iconst (pc' := 39) (v := (3 : Int32)) at_38 rfl rfl ?_
  refine irem (pc' := 40) at_39 (by decide) rfl ?_
  refine istore (pc' := 42) (L' := #[.val (.int i0), .val (.int i1), .val (.int i2), .val (.int i3), .val (.int i4), .val (.int ((i0 &&& (255 : Int32)) % (3 : Int32))), .val (.int ((((i0.toUInt32 >>> ((8 : Int32) &&& 31).toUInt32).toInt32) &&& (255 : Int32)) % (3 : Int32))), .val (.int ((i1 &&& (255 : Int32)) % (3 : Int32))), .val (.int ((((i1.toUInt32 >>> ((8 : Int32) &&& 31).toUInt32).toInt32) &&& (255 : Int32)) % (3 : Int32))), .unset, .unset, .unset, .unset, .unset, .unset, .unset, .unset]) at_40 rfl rfl ?_
  refine iloadN (pc' := 43) at_42 rfl rfl ?_
  refine sipush (pc' := 46) (v := (255 : Int32)) at_43 rfl rfl ?_
  refine iand (pc' := 47) at_46 rfl ?_
  refine i2c (pc' := 48) at_47 rfl ?_
  refine istore (pc' := 50) (L' := #[.val (.int i0), .val (.int i1), .val (.int i2), .val (.int i3), .val (.int i4), .val (.int ((i0 &&& (255 : Int32)) % (3 : Int32))), .val (.int ((((i0.toUInt32 >>> ((8 : Int32) &&& 31).toUInt32).toInt32) &&& (255 : Int32)) % (3 : Int32))), .val (.int ((i1 &&& (255 : Int32)) % (3 : Int32))), .val (.int ((((i1.toUInt32 >>> ((8 : Int32) &&& 31).toUInt32).toInt32) &&& (255 : Int32)) % (3 : Int32))), .val (.int ((i2 &&& (255 : Int32)).toUInt32.toUInt16.toUInt32.toInt32)), .unset, .unset, .unset, .unset, .unset, .unset, .unset]) at_48 rfl rfl ?_
  refine iloadN (pc' := 51) at_50 rfl rfl ?_
  refine bipush (pc' := 53) (v := (8 : Int32)) at_51 rfl rfl ?_
  refine iushr (pc' := 54) at_53 rfl ?_
  refine sipush (pc' := 57) (v := (255 : Int32)) at_54 rfl rfl ?_
  refine iand (pc' := 58) at_57 rfl ?_
  refine i2c (pc' := 59) at_58 rfl ?_
  refine istore (pc' := 61) (L' := #[.val (.int i0), .val (.int i1), .val (.int i2), .val (.int i3), .val (.int i4), .val (.int ((i0 &&& (255 : Int32)) % (3 : Int32))), .val (.int ((((i0.toUInt32 >>> ((8 : Int32) &&& 31).toUInt32).toInt32) &&& (255 : Int32)) % (3 : Int32))), .val (.int ((i1 &&& (255 : Int32)) % (3 : Int32))), .val (.int ((((i1.toUInt32 >>> ((8 : Int32) &&& 31).toUInt32).toInt32) &&& (255 : Int32)) % (3 : Int32))), .val (.int ((i2 &&& (255 : Int32)).toUInt32.toUInt16.toUInt32.toInt32)), .val (.int ((((i2.toUInt32 >>> ((8 : Int32) &&& 31).toUInt32).toInt32) &&& (255 : Int32)).toUInt32.toUInt16.toUInt32.toInt32)), .unset, .unset, .unset, .unset, .unset, .unset]) at_59 rfl rfl ?_
  refine at' (ce' := 0) (sl' := 0) (pc' := 61) (L' := #[.val (.int i0), .val (.int i1), .val (.int i2), .val (.int i3), .val (.int i4), .val (.int ((i0 &&& (255 : Int32)) % (3 : Int32))), .val (.int ((((i0.toUInt32 >>> ((8 : Int32) &&& 31).toUInt32).toInt32) &&& (255 : Int32)) % (3 : Int32))), .val (.int ((i1 &&& (255 : Int32)) % (3 : Int32))), .val (.int ((((i1.toUInt32 >>> ((8 : Int32) &&& 31).toUInt32).toInt32) &&& (255 : Int32)) % (3 : Int32))), .val (.int (i2 &&& (255 : Int32))), .val (.int (((i2.toUInt32 >>> ((8 : Int32) &&& 31).toUInt32).toInt32) &&& (255 : Int32))), .unset, .unset, .unset, .unset, .unset, .unset]) (S' := []) rfl rfl rfl (by rw [i2c_mask, i2c_mask]) rfl ?_
  refine iload (pc' := 63) at_61 rfl rfl ?_
  refine iconst (pc' := 64) (v := (1 : Int32)) at_63 rfl rfl ?_
  refine iand (pc' := 65) at_64 rfl ?_
  refine ifc (pc' := 79) (pcF := 68) at_65 (by decide) rfl rfl (fun (qm1 : (i4 &&& (1 : Int32)) = (0 : Int32)) => ?_) (fun (qm1 : ¬ ((i4 &&& (1 : Int32)) = (0 : Int32))) => ?_)
  · skip
    refine iloadN (pc' := 80) at_79 rfl rfl ?_
    refine sipush (pc' := 83) (v := (255 : Int32)) at_80 rfl rfl ?_
    refine iand (pc' := 84) at_83 rfl ?_
    refine i2c (pc' := 85) at_84 rfl ?_
    refine istore (pc' := 87) (L' := #[.val (.int i0), .val (.int i1), .val (.int i2), .val (.int i3), .val (.int i4), .val (.int ((i0 &&& (255 : Int32)) % (3 : Int32))), .val (.int ((((i0.toUInt32 >>> ((8 : Int32) &&& 31).toUInt32).toInt32) &&& (255 : Int32)) % (3 : Int32))), .val (.int ((i1 &&& (255 : Int32)) % (3 : Int32))), .val (.int ((((i1.toUInt32 >>> ((8 : Int32) &&& 31).toUInt32).toInt32) &&& (255 : Int32)) % (3 : Int32))), .val (.int (i2 &&& (255 : Int32))), .val (.int (((i2.toUInt32 >>> ((8 : Int32) &&& 31).toUInt32).toInt32) &&& (255 : Int32))), .val (.int ((i3 &&& (255 : Int32)).toUInt32.toUInt16.toUInt32.toInt32)), .unset, .unset, .unset, .unset, .unset]) at_85 rfl rfl ?_
    refine iloadN (pc' := 88) at_87 rfl rfl ?_
    refine bipush (pc' := 90) (v := (8 : Int32)) at_88 rfl rfl ?_
    refine iushr (pc' := 91) at_90 rfl ?_
    refine sipush (pc' := 94) (v := (255 : Int32)) at_91 rfl rfl ?_
    refine iand (pc' := 95) at_94 rfl ?_
    refine i2c (pc' := 96) at_95 rfl ?_
    refine istore (pc' := 98) (L' := #[.val (.int i0), .val (.int i1), .val (.int i2), .val (.int i3), .val (.int i4), .val (.int ((i0 &&& (255 : Int32)) % (3 : Int32))), .val (.int ((((i0.toUInt32 >>> ((8 : Int32) &&& 31).toUInt32).toInt32) &&& (255 : Int32)) % (3 : Int32))), .val (.int ((i1 &&& (255 : Int32)) % (3 : Int32))), .val (.int ((((i1.toUInt32 >>> ((8 : Int32) &&& 31).toUInt32).toInt32) &&& (255 : Int32)) % (3 : Int32))), .val (.int (i2 &&& (255 : Int32))), .val (.int (((i2.toUInt32 >>> ((8 : Int32) &&& 31).toUInt32).toInt32) &&& (255 : Int32))), .val (.int ((i3 &&& (255 : Int32)).toUInt32.toUInt16.toUInt32.toInt32)), .val (.int ((((i3.toUInt32 >>> ((8 : Int32) &&& 31).toUInt32).toInt32) &&& (255 : Int32)).toUInt32.toUInt16.toUInt32.toInt32)), .unset, .unset, .unset, .unset]) at_96 rfl rfl ?_
    refine at' (ce' := 0) (sl' := 0) (pc' := 98) (L' := #[.val (.int i0), .val (.int i1), .val (.int i2), .val (.int i3), .val (.int i4), .val (.int ((i0 &&& (255 : Int32)) % (3 : Int32))), .val (.int ((((i0.toUInt32 >>> ((8 : Int32) &&& 31).toUInt32).toInt32) &&& (255 : Int32)) % (3 : Int32))), .val (.int ((i1 &&& (255 : Int32)) % (3 : Int32))), .val (.int ((((i1.toUInt32 >>> ((8 : Int32) &&& 31).toUInt32).toInt32) &&& (255 : Int32)) % (3 : Int32))), .val (.int (i2 &&& (255 : Int32))), .val (.int (((i2.toUInt32 >>> ((8 : Int32) &&& 31).toUInt32).toInt32) &&& (255 : Int32))), .val (.int (i3 &&& (255 : Int32))), .val (.int (((i3.toUInt32 >>> ((8 : Int32) &&& 31).toUInt32).toInt32) &&& (255 : Int32))), .unset, .unset, .unset, .unset]) (S' := []) rfl rfl rfl (by rw [i2c_mask, i2c_mask]) rfl ?_
    refine iload (pc' := 100) at_98 rfl rfl ?_
    refine iconst (pc' := 101) (v := (2 : Int32)) at_100 rfl rfl ?_
    refine iand (pc' := 102) at_101 rfl ?_
    refine ifc (pc' := 113) (pcF := 105) at_102 (by decide) rfl rfl (fun (qm2 : (i4 &&& (2 : Int32)) = (0 : Int32)) => ?_) (fun (qm2 : ¬ ((i4 &&& (2 : Int32)) = (0 : Int32))) => ?_)
    · skip
      exact J113 _ _ _ _ _ _ _ _ (own_t3 _) (own_t3 _) (own_t3 _) (own_t3 _) (own_ok _) (own_ok _) (own_ok _) (own_ok _)
    · skip
      refine iload (pc' := 107) at_105 rfl rfl ?_
      refine istore (pc' := 109) (L' := #[.val (.int i0), .val (.int i1), .val (.int i2), .val (.int i3), .val (.int i4), .val (.int ((i0 &&& (255 : Int32)) % (3 : Int32))), .val (.int ((i0 &&& (255 : Int32)) % (3 : Int32))), .val (.int ((i1 &&& (255 : Int32)) % (3 : Int32))), .val (.int ((((i1.toUInt32 >>> ((8 : Int32) &&& 31).toUInt32).toInt32) &&& (255 : Int32)) % (3 : Int32))), .val (.int (i2 &&& (255 : Int32))), .val (.int (((i2.toUInt32 >>> ((8 : Int32) &&& 31).toUInt32).toInt32) &&& (255 : Int32))), .val (.int (i3 &&& (255 : Int32))), .val (.int (((i3.toUInt32 >>> ((8 : Int32) &&& 31).toUInt32).toInt32) &&& (255 : Int32))), .unset, .unset, .unset, .unset]) at_107 rfl rfl ?_
      refine iload (pc' := 111) at_109 rfl rfl ?_
      refine istore (pc' := 113) (L' := #[.val (.int i0), .val (.int i1), .val (.int i2), .val (.int i3), .val (.int i4), .val (.int ((i0 &&& (255 : Int32)) % (3 : Int32))), .val (.int ((i0 &&& (255 : Int32)) % (3 : Int32))), .val (.int ((i1 &&& (255 : Int32)) % (3 : Int32))), .val (.int ((i1 &&& (255 : Int32)) % (3 : Int32))), .val (.int (i2 &&& (255 : Int32))), .val (.int (((i2.toUInt32 >>> ((8 : Int32) &&& 31).toUInt32).toInt32) &&& (255 : Int32))), .val (.int (i3 &&& (255 : Int32))), .val (.int (((i3.toUInt32 >>> ((8 : Int32) &&& 31).toUInt32).toInt32) &&& (255 : Int32))), .unset, .unset, .unset, .unset]) at_111 rfl rfl ?_
      exact J113 _ _ _ _ _ _ _ _ (own_t3 _) (own_t3 _) (own_t3 _) (own_t3 _) (own_ok _) (own_ok _) (own_ok _) (own_ok _)
  · skip
    refine iload (pc' := 70) at_68 rfl rfl ?_
    refine istore (pc' := 72) (L' := #[.val (.int i0), .val (.int i1), .val (.int i2), .val (.int i3), .val (.int i4), .val (.int ((i0 &&& (255 : Int32)) % (3 : Int32))), .val (.int ((((i0.toUInt32 >>> ((8 : Int32) &&& 31).toUInt32).toInt32) &&& (255 : Int32)) % (3 : Int32))), .val (.int ((i1 &&& (255 : Int32)) % (3 : Int32))), .val (.int ((((i1.toUInt32 >>> ((8 : Int32) &&& 31).toUInt32).toInt32) &&& (255 : Int32)) % (3 : Int32))), .val (.int (i2 &&& (255 : Int32))), .val (.int (((i2.toUInt32 >>> ((8 : Int32) &&& 31).toUInt32).toInt32) &&& (255 : Int32))), .val (.int (i2 &&& (255 : Int32))), .unset, .unset, .unset, .unset, .unset]) at_70 rfl rfl ?_
    refine iload (pc' := 74) at_72 rfl rfl ?_
    refine istore (pc' := 76) (L' := #[.val (.int i0), .val (.int i1), .val (.int i2), .val (.int i3), .val (.int i4), .val (.int ((i0 &&& (255 : Int32)) % (3 : Int32))), .val (.int ((((i0.toUInt32 >>> ((8 : Int32) &&& 31).toUInt32).toInt32) &&& (255 : Int32)) % (3 : Int32))), .val (.int ((i1 &&& (255 : Int32)) % (3 : Int32))), .val (.int ((((i1.toUInt32 >>> ((8 : Int32) &&& 31).toUInt32).toInt32) &&& (255 : Int32)) % (3 : Int32))), .val (.int (i2 &&& (255 : Int32))), .val (.int (((i2.toUInt32 >>> ((8 : Int32) &&& 31).toUInt32).toInt32) &&& (255 : Int32))), .val (.int (i2 &&& (255 : Int32))), .val (.int (((i2.toUInt32 >>> ((8 : Int32) &&& 31).toUInt32).toInt32) &&& (255 : Int32))), .unset, .unset, .unset, .unset]) at_74 rfl rfl ?_
    refine goto (pc' := 98) at_76 (by decide) rfl ?_
    refine iload (pc' := 100) at_98 rfl rfl ?_
    refine iconst (pc' := 101) (v := (2 : Int32)) at_100 rfl rfl ?_
    refine iand (pc' := 102) at_101 rfl ?_
    refine ifc (pc' := 113) (pcF := 105) at_102 (by decide) rfl rfl (fun (qm2 : (i4 &&& (2 : Int32)) = (0 : Int32)) => ?_) (fun (qm2 : ¬ ((i4 &&& (2 : Int32)) = (0 : Int32))) => ?_)
    · skip
      exact J113 _ _ _ _ _ _ _ _ (own_t3 _) (own_t3 _) (own_t3 _) (own_t3 _) (own_ok _) (own_ok _) (own_ok _) (own_ok _)
    · skip
      refine iload (pc' := 107) at_105 rfl rfl ?_
      refine istore (pc' := 109) (L' := #[.val (.int i0), .val (.int i1), .val (.int i2), .val (.int i3), .val (.int i4), .val (.int ((i0 &&& (255 : Int32)) % (3 : Int32))), .val (.int ((i0 &&& (255 : Int32)) % (3 : Int32))), .val (.int ((i1 &&& (255 : Int32)) % (3 : Int32))), .val (.int ((((i1.toUInt32 >>> ((8 : Int32) &&& 31).toUInt32).toInt32) &&& (255 : Int32)) % (3 : Int32))), .val (.int (i2 &&& (255 : Int32))), .val (.int (((i2.toUInt32 >>> ((8 : Int32) &&& 31).toUInt32).toInt32) &&& (255 : Int32))), .val (.int (i2 &&& (255 : Int32))), .val (.int (((i2.toUInt32 >>> ((8 : Int32) &&& 31).toUInt32).toInt32) &&& (255 : Int32))), .unset, .unset, .unset, .unset]) at_107 rfl rfl ?_
      refine iload (pc' := 111) at_109 rfl rfl ?_
      refine istore (pc' := 113) (L' := #[.val (.int i0), .val (.int i1), .val (.int i2), .val (.int i3), .val (.int i4), .val (.int ((i0 &&& (255 : Int32)) % (3 : Int32))), .val (.int ((i0 &&& (255 : Int32)) % (3 : Int32))), .val (.int ((i1 &&& (255 : Int32)) % (3 : Int32))), .val (.int ((i1 &&& (255 : Int32)) % (3 : Int32))), .val (.int (i2 &&& (255 : Int32))), .val (.int (((i2.toUInt32 >>> ((8 : Int32) &&& 31).toUInt32).toInt32) &&& (255 : Int32))), .val (.int (i2 &&& (255 : Int32))), .val (.int (((i2.toUInt32 >>> ((8 : Int32) &&& 31).toUInt32).toInt32) &&& (255 : Int32))), .unset, .unset, .unset, .unset]) at_111 rfl rfl ?_
      exact J113 _ _ _ _ _ _ _ _ (own_t3 _) (own_t3 _) (own_t3 _) (own_t3 _) (own_ok _) (own_ok _) (own_ok _) (own_ok _)
set_option maxRecDepth 65536 in
set_option maxHeartbeats 40000000 in
theorem comes_1 {Post : Tables → Env → Array Value → State → Outcome → State → Prop} (hpost : ∀ tb e args s v u, (limb_1_1.after args s (.returned v) u = true ∧ limb_1_2.after args s (.returned v) u = true ∧ True) → ReturnedEndW s (.returned v) u (Jvm.fieldLocs frame_1_writes args s ++ Jvm.arrayLocs frame_1_arrays args s ++ Jvm.staticLocs frame_1_statics s) 32 3200 → Post tb e args s (.returned v) u) :
    ArmFor flags0 classFile x code maxLocals ret World_1 tables_1 room_1 Calls_1 rest_1 Pre_1 Post := by
  intro l hfl _ _ p e ha hc hk s m args below hf hA hF happ hP
  obtain ⟨hcalls, hrest, hpre⟩ := hP
  obtain ⟨-, -, -, hnamed, -, -, -, hat⟩ := (Spec.applies_iff hf).mp happ
  obtain ⟨hg, hn⟩ := and_e (Cond.before_iff.mp (show (Jvm.Cond.and given_1 narrow_1).before args s = true from hpre))
  obtain ⟨hcount, hg0⟩ := and_e hg
  obtain ⟨ga0, hg1⟩ := and_e hg0
  obtain ⟨ga1, hg2⟩ := and_e hg1
  obtain ⟨ga2, hg3⟩ := and_e hg2
  obtain ⟨ga3, hg4⟩ := and_e hg3
  have ga4 := hg4
  obtain ⟨w0, w1, w2, w3, w4, rfl⟩ : ∃ w0 w1 w2 w3 w4 : Value, args = #[w0, w1, w2, w3, w4] := by
    have hs : args.size = 5 := by simpa [Cond.value, given_1] using hcount
    obtain ⟨L⟩ := args
    match L, hs with
    | [w0, w1, w2, w3, w4], _ => exact ⟨w0, w1, w2, w3, w4, rfl⟩
  have hw := fun d (hd : d ∈ tables_1) => atoms_spec (ws := Jvm.Cond.code x code maxLocals ret :: tables_1) hat d (List.mem_cons_of_mem _ hd)
  have hfit : Fit s := fun {y c} hc i hi => by
    obtain ⟨ha, rfl⟩ := Array.getElem?_eq_some_iff.mp hc
    have q := List.all_eq_true.mp ((Array.all_eq_true_iff_forall_mem.mp hF) _ (Array.getElem_mem ha)) i (List.mem_range.mpr hi)
    simpa [Array.getElem?_eq_getElem hi] using q
  obtain ⟨hsets, hown0⟩ := atoms_of _ (rest_1_c_eq ▸ (show rest_1_c.before _ s = true from hrest))
  obtain ⟨i0, ei0⟩ := is_v ga0
  obtain rfl : w0 = (.int i0) := Option.some.inj ei0
  obtain ⟨i1, ei1⟩ := is_v ga1
  obtain rfl : w1 = (.int i1) := Option.some.inj ei1
  obtain ⟨i2, ei2⟩ := is_v ga2
  obtain rfl : w2 = (.int i2) := Option.some.inj ei2
  obtain ⟨i3, ei3⟩ := is_v ga3
  obtain rfl : w3 = (.int i3) := Option.some.inj ei3
  obtain ⟨i4, ei4⟩ := is_v ga4
  obtain rfl : w4 = (.int i4) := Option.some.inj ei4
  obtain ⟨zc, ezc⟩ := is_v (Cond.before_iff.mp (hsets _ (List.mem_of_getElem? (i := 1) rfl)))
  have nzc := not_v (Cond.before_iff.mp (hsets _ (List.mem_of_getElem? (i := 2) rfl)))
  have Szc : Sta s s.heap "java/lang/String" "COMPACT_STRINGS" "Z" (.int zc) := Sta.start ezc (Or.inl (hsets _ (List.mem_of_getElem? (i := 0) rfl)))
  obtain ⟨fm, efm, rfm⟩ := isR_v (Cond.before_iff.mp (hsets _ (List.mem_of_getElem? (i := 8) rfl)))
  have Sfm : Sta s s.heap "jdk/internal/util/Preconditions" "SIOOBE_FORMATTER" "Ljava/util/function/BiFunction;" fm := Sta.start efm (Or.inl (hsets _ (List.mem_of_getElem? (i := 7) rfl)))
  have hzc : ¬ (zc = (0 : Int32)) := gotF (Cond.eq_ints ezc (Term.int_eval (0))) nzc
  have hB : Sets s := ⟨zc, fm, Szc, hzc, Sfm, rfm⟩
  obtain ⟨k0, hn1⟩ := and_e hn
  obtain ⟨k1, hn2⟩ := and_e hn1
  have k2 := hn2
  obtain ⟨c0, ec0⟩ := exa_v k0
  have S0 := Sta.start ec0 (Or.inr ⟨hw _ (List.mem_of_getElem? (i := 8) rfl), hw _ (List.mem_of_getElem? (i := 9) rfl)⟩)
  have X0 := Exa.start ec0 k0
  obtain ⟨c1, ec1⟩ := exa_v k2
  have S1 := Sta.start ec1 (Or.inr ⟨hw _ (List.mem_of_getElem? (i := 8) rfl), hw _ (List.mem_of_getElem? (i := 98) rfl)⟩)
  have X1 := Exa.start ec1 k2
  obtain ⟨c2, ec2⟩ := exa_v k1
  have S2 := Sta.start ec2 (Or.inr ⟨hw _ (List.mem_of_getElem? (i := 8) rfl), hw _ (List.mem_of_getElem? (i := 95) rfl)⟩)
  have X2 := Exa.start ec2 k1
  have hEL : EW s _ consts_1 := EW.cons (hw _ (List.mem_of_getElem? (i := 44) rfl)) (by decide) (EW.cons (hw _ (List.mem_of_getElem? (i := 49) rfl)) (by decide) (EW.cons (hw _ (List.mem_of_getElem? (i := 27) rfl)) (by simp) EW.nil))
  have hCHv : CHv s consts_1 s.vm s.heap := CHv.start hEL (fun p hp => hcalls.1 p hp) (hsets _ (List.mem_of_getElem? (i := 2) rfl)) (hw _ (List.mem_of_getElem? (i := 28) rfl)) (hw _ (List.mem_of_getElem? (i := 14) rfl))
  obtain ⟨n, o, h1, h2, h3, v, L, rfl, ⟨rfl, N, -⟩, hCH, hE, hWm⟩ := law_met l s _ hw hEL s.heap.size c0 c1 c2 i0 i1 i2 i3 i4 s.heap ⟨⟨S0, X0⟩, ⟨S1, X1⟩, S2, X2⟩ hB p e ha hc hk s m _ below hf ((Spec.applies_iff_loose hf).mp happ).1 ⟨rfl, State.Warmed39.refl s, rfl, hCHv, Old.start s, fun x q => nomatch q⟩ trivial
  refine ⟨n, _, h1, h2, h3, hpost _ _ _ _ _ _ ⟨Cond.after_iff.mpr rfl, Cond.after_iff.mpr (eq_i res_at (Term.int_eval (1)) rfl), trivial⟩ ⟨hE.1, hE.2.1, hE.2.2.1, (hE.2.2.2.sift fun y hy => Or.inr (N y hy)).mono (by decide) (by decide)⟩⟩
theorem main_1_1 : Claimed_1_1 := comes_1 fun _ _ _ _ _ _ h hF => ⟨h.1, hF⟩
theorem main_1_2 : Claimed_1_2 := comes_1 fun _ _ _ _ _ _ h hF => ⟨h.2.1, hF⟩
end Jvm.Pilot.@@N@@
namespace Jvm.Pilot.@@N@@
open Jvm Jvm.ClassFile Sem Op Lib Jvm.Free Jvm.Stand Jvm.Pilot.@@N@@.Jvm.D
/-! MADE BY PROGRAM (witnessworld.py) out of the Statement's table words and the real class files: 28 classes; the members and pool entries that the words name. The judged class is class 1, her method 3. -/
namespace start1
open Jvm.ClassFile
def u (s : String) : CpInfo := .utf8 (stringToUtf16 s)
/-- a pool by its gaps: so many unusable entries, then the entry; so many at the end -/
def gap : Nat → List CpInfo → List CpInfo
  | 0, r => r
  | n + 1, r => .unusable :: gap n r
def poolList (es : List (Nat × CpInfo)) (last : Nat) : List CpInfo := es.foldr (fun e r => gap e.1 (e.2 :: r)) (gap last [])
def pool (es : List (Nat × CpInfo)) (last : Nat) : Array CpInfo := ⟨poolList es last⟩
def fileOf (pool : Array CpInfo) (this : Nat) (attrs : Array Attribute := #[]) (ms : Array MethodInfo := #[]) (fl : Nat := 33) (sup : Nat := 0) (ifs : Array Nat := #[]) (fds : Array FieldInfo := #[]) : ClassFile where
  minorVersion := 0
  majorVersion := 65
  constantPool := pool
  accessFlags := fl
  thisClass := this
  superClass := sup
  interfaces := ifs
  fields := fds
  methods := ms
  attributes := attrs
def plain (name : String) (sup : Option ClassId) : Class where
  name := name
  kind := .ordinary
  loader := none
  accessFlags := 33
  super := sup
  interfaces := #[]
  cf := none
  fields := #[]
  methods := #[]
  instanceTypes := #[]
  staticTypes := #[]
  resolved := #[]
  callSites := []
  init := .initialized
  statics := none
  mirror := none

def pool0 : Array CpInfo := pool [(5, u "<init>"), (0, u "()V"), (1, .class_ 10), (1, u "java/lang/Object")] 113

def k0c0 : Code := { maxStack := 0, maxLocals := 1, code := object_method_1_code, exceptionTable := #[], attributes := #[] }
def k0m0 : Method := { name := "<init>", desc := "()V", sig := { parameters := [], returnType := none }, accessFlags := 1, code := some k0c0 }
/-- java/lang/Object -/
def k0 : Class := { plain "java/lang/Object" none with
  accessFlags := 33
  interfaces := #[]
  cf := some (fileOf pool0 8 #[] #[{ accessFlags := 1, nameIndex := 5, descriptorIndex := 6, attributes := #[] }] 33 0 #[] #[])
  fields := #[]
  methods := #[k0m0]
  instanceTypes := #[]
  staticTypes := #[]
  resolved := Array.replicate 124 none
  statics := none }

def pool1 : Array CpInfo := pool [(2, .class_ 4), (1, u "java/lang/Object"), (0, u "<init>"), (0, u "()V"), (0, .fieldref 8 9), (0, .class_ 10), (0, .nameAndType 11 12), (0, u "com/example/berth/berth/engine/GroupKind"), (0, u "AFFINITY"), (0, u "Lcom/example/berth/berth/engine/GroupKind;"), (0, .fieldref 8 14), (0, .nameAndType 15 12), (0, u "ANTI_AFFINITY"), (0, .fieldref 8 17), (0, .nameAndType 18 12), (0, u "FAULT_DOMAIN"), (0, .class_ 20), (0, u "java/lang/String"), (0, .methodref 19 22), (0, .nameAndType 5 23), (0, u "([C)V"), (0, .methodref 19 25), (0, .nameAndType 26 27), (0, u "valueOf"), (0, u "(C)Ljava/lang/String;"), (0, .class_ 29), (0, u "com/example/berth/berth/engine/Group"), (0, .methodref 31 32), (0, .class_ 33), (0, .nameAndType 34 35), (0, u "com/example/berth/berth/engine/GroupEqualsPinLaw"), (0, u "kindOf"), (0, u "(I)Lcom/example/berth/berth/engine/GroupKind;"), (0, .methodref 31 37), (0, .nameAndType 38 39), (0, u "idOf"), (0, u "(ICC)Ljava/lang/String;"), (0, .methodref 28 41), (0, .nameAndType 5 42), (0, u "(Lcom/example/berth/berth/engine/GroupKind;Ljava/lang/String;)V"), (0, .methodref 28 44), (0, .nameAndType 45 46), (0, u "id"), (0, u "()Ljava/lang/String;"), (0, .methodref 28 48), (0, .nameAndType 49 50), (0, u "equals"), (0, u "(Ljava/lang/Object;)Z"), (3, u "law"), (0, u "(IIIII)Z")] 2

def k1m0 : Method := { name := "<init>", desc := "()V", sig := { parameters := [], returnType := none }, accessFlags := 1, code := none }
def k1c1 : Code := { maxStack := 2, maxLocals := 1, code := method_2_code, exceptionTable := #[], attributes := #[] }
def k1m1 : Method := { name := "kindOf", desc := "(I)Lcom/example/berth/berth/engine/GroupKind;", sig := { parameters := [.int], returnType := some (.object "com/example/berth/berth/engine/GroupKind") }, accessFlags := 10, code := some k1c1 }
def k1c2 : Code := { maxStack := 3, maxLocals := 4, code := method_3_code, exceptionTable := #[], attributes := #[] }
def k1m2 : Method := { name := "idOf", desc := "(ICC)Ljava/lang/String;", sig := { parameters := [.int, .char, .char], returnType := some (.object "java/lang/String") }, accessFlags := 10, code := some k1c2 }
def k1c3 : Code := { maxStack := 6, maxLocals := 17, code := code, exceptionTable := #[], attributes := #[] }
def k1m3 : Method := { name := "law", desc := "(IIIII)Z", sig := { parameters := [.int, .int, .int, .int, .int], returnType := some .boolean }, accessFlags := 9, code := some k1c3 }
/-- com/example/berth/berth/engine/GroupEqualsPinLaw -/
def k1 : Class := { plain "com/example/berth/berth/engine/GroupEqualsPinLaw" (some 0) with
  accessFlags := 49
  interfaces := #[]
  cf := some (fileOf pool1 31 #[] #[{ accessFlags := 1, nameIndex := 5, descriptorIndex := 6, attributes := #[] }, { accessFlags := 10, nameIndex := 34, descriptorIndex := 35, attributes := #[] }, { accessFlags := 10, nameIndex := 38, descriptorIndex := 39, attributes := #[] }, { accessFlags := 9, nameIndex := 54, descriptorIndex := 55, attributes := #[] }] 49 2 #[] #[])
  fields := #[]
  methods := #[k1m0, k1m1, k1m2, k1m3]
  instanceTypes := #[]
  staticTypes := #[]
  resolved := Array.replicate 58 none
  statics := none }

def pool2 : Array CpInfo := pool [(1, .methodref 2 3), (0, .class_ 4), (0, .nameAndType 5 6), (0, u "java/lang/Object"), (0, u "<init>"), (0, u "()V"), (0, .class_ 8), (0, u "java/lang/Record")] 13

def k2c0 : Code := { maxStack := 1, maxLocals := 1, code := jdk_30_method_1_code, exceptionTable := #[], attributes := #[] }
def k2m0 : Method := { name := "<init>", desc := "()V", sig := { parameters := [], returnType := none }, accessFlags := 4, code := some k2c0 }
/-- java/lang/Record -/
def k2 : Class := { plain "java/lang/Record" (some 0) with
  accessFlags := 1057
  interfaces := #[]
  cf := some (fileOf pool2 7 #[] #[{ accessFlags := 4, nameIndex := 5, descriptorIndex := 6, attributes := #[] }] 1057 2 #[] #[])
  fields := #[]
  methods := #[k2m0]
  instanceTypes := #[]
  staticTypes := #[]
  resolved := Array.replicate 22 none
  statics := none }

def pool3 : Array CpInfo := pool [(1, .methodref 2 3), (0, .class_ 4), (0, .nameAndType 5 6), (0, u "java/lang/Record"), (0, u "<init>"), (0, u "()V"), (0, .string 8), (0, u "kind"), (0, .methodref 10 11), (0, .class_ 12), (0, .nameAndType 13 14), (0, u "java/util/Objects"), (0, u "requireNonNull"), (0, u "(Ljava/lang/Object;Ljava/lang/String;)Ljava/lang/Object;"), (0, .string 16), (0, u "id"), (0, .fieldref 18 19), (0, .class_ 20), (0, .nameAndType 8 21), (0, u "com/example/berth/berth/engine/Group"), (0, u "Lcom/example/berth/berth/engine/GroupKind;"), (0, .fieldref 18 23), (0, .nameAndType 16 24), (0, u "Ljava/lang/String;"), (0, .methodref 26 27), (0, .class_ 28), (0, .nameAndType 29 30), (0, u "java/lang/String"), (0, u "equals"), (0, u "(Ljava/lang/Object;)Z"), (11, u "(Lcom/example/berth/berth/engine/GroupKind;Ljava/lang/String;)V"), (4, u "()Ljava/lang/String;")] 22

def k3c0 : Code := { maxStack := 2, maxLocals := 3, code := prog_25_method_1_code, exceptionTable := #[], attributes := #[] }
def k3m0 : Method := { name := "<init>", desc := "(Lcom/example/berth/berth/engine/GroupKind;Ljava/lang/String;)V", sig := { parameters := [(.object "com/example/berth/berth/engine/GroupKind"), (.object "java/lang/String")], returnType := none }, accessFlags := 1, code := some k3c0 }
def k3c1 : Code := { maxStack := 2, maxLocals := 3, code := prog_25_method_2_code, exceptionTable := #[], attributes := #[] }
def k3m1 : Method := { name := "equals", desc := "(Ljava/lang/Object;)Z", sig := { parameters := [(.object "java/lang/Object")], returnType := some .boolean }, accessFlags := 1, code := some k3c1 }
def k3c2 : Code := { maxStack := 1, maxLocals := 1, code := prog_25_method_6_code, exceptionTable := #[], attributes := #[] }
def k3m2 : Method := { name := "id", desc := "()Ljava/lang/String;", sig := { parameters := [], returnType := some (.object "java/lang/String") }, accessFlags := 1, code := some k3c2 }
/-- com/example/berth/berth/engine/Group -/
def k3 : Class := { plain "com/example/berth/berth/engine/Group" (some 2) with
  accessFlags := 49
  interfaces := #[]
  cf := some (fileOf pool3 18 #[] #[{ accessFlags := 1, nameIndex := 5, descriptorIndex := 42, attributes := #[] }, { accessFlags := 1, nameIndex := 29, descriptorIndex := 30, attributes := #[] }, { accessFlags := 1, nameIndex := 16, descriptorIndex := 47, attributes := #[] }] 49 2 #[] #[{ accessFlags := 18, nameIndex := 8, descriptorIndex := 21, attributes := #[] }, { accessFlags := 18, nameIndex := 16, descriptorIndex := 24, attributes := #[] }])
  fields := #[{ name := "kind", type := (.object "com/example/berth/berth/engine/GroupKind"), accessFlags := 18, slot := 0, constantValue := 0 }, { name := "id", type := (.object "java/lang/String"), accessFlags := 18, slot := 1, constantValue := 0 }]
  methods := #[k3m0, k3m1, k3m2]
  instanceTypes := #[(.object "com/example/berth/berth/engine/GroupKind"), (.object "java/lang/String")]
  staticTypes := #[]
  resolved := Array.replicate 70 none
  statics := none }

def pool4 : Array CpInfo := pool [(1, .class_ 2), (0, u "java/lang/constant/Constable"), (0, .class_ 4), (0, u "java/lang/Object")] 6

/-- java/lang/constant/Constable -/
def k4 : Class := { plain "java/lang/constant/Constable" (some 0) with
  accessFlags := 1537
  interfaces := #[]
  cf := some (fileOf pool4 1 #[] #[] 1537 3 #[] #[])
  fields := #[]
  methods := #[]
  instanceTypes := #[]
  staticTypes := #[]
  resolved := Array.replicate 11 none
  statics := none }

def pool5 : Array CpInfo := pool [(1, .class_ 2), (0, u "java/lang/Comparable"), (0, .class_ 4), (0, u "java/lang/Object")] 7

/-- java/lang/Comparable -/
def k5 : Class := { plain "java/lang/Comparable" (some 0) with
  accessFlags := 1537
  interfaces := #[]
  cf := some (fileOf pool5 1 #[] #[] 1537 3 #[] #[])
  fields := #[]
  methods := #[]
  instanceTypes := #[]
  staticTypes := #[]
  resolved := Array.replicate 12 none
  statics := none }

def pool6 : Array CpInfo := pool [(1, .class_ 2), (0, u "java/io/Serializable"), (0, .class_ 4), (0, u "java/lang/Object")] 2

/-- java/io/Serializable -/
def k6 : Class := { plain "java/io/Serializable" (some 0) with
  accessFlags := 1537
  interfaces := #[]
  cf := some (fileOf pool6 1 #[] #[] 1537 3 #[] #[])
  fields := #[]
  methods := #[]
  instanceTypes := #[]
  staticTypes := #[]
  resolved := Array.replicate 7 none
  statics := none }

def pool7 : Array CpInfo := pool [(2, .class_ 4), (1, u "java/lang/Enum"), (0, u "name"), (0, u "Ljava/lang/String;"), (2, u "ordinal"), (0, u "I"), (1, .class_ 14), (1, u "java/lang/Object"), (4, u "hash"), (86, .class_ 108), (1, u "java/lang/Enum$EnumDesc"), (2, .class_ 112), (0, u "java/lang/constant/Constable"), (0, .class_ 114), (0, u "java/lang/Comparable"), (0, .class_ 116), (0, u "java/io/Serializable")] 87

/-- java/lang/Enum -/
def k7 : Class := { plain "java/lang/Enum" (some 0) with
  accessFlags := 1057
  interfaces := #[4, 5, 6]
  cf := some (fileOf pool7 2 #[.nestMembers #[106]] #[] 1057 12 #[111, 113, 115] #[{ accessFlags := 18, nameIndex := 5, descriptorIndex := 6, attributes := #[] }, { accessFlags := 18, nameIndex := 9, descriptorIndex := 10, attributes := #[] }, { accessFlags := 2, nameIndex := 19, descriptorIndex := 10, attributes := #[] }])
  fields := #[{ name := "name", type := (.object "java/lang/String"), accessFlags := 18, slot := 0, constantValue := 0 }, { name := "ordinal", type := .int, accessFlags := 18, slot := 1, constantValue := 0 }, { name := "hash", type := .int, accessFlags := 2, slot := 2, constantValue := 0 }]
  methods := #[]
  instanceTypes := #[(.object "java/lang/String"), .int, .int]
  staticTypes := #[]
  resolved := Array.replicate 204 none
  statics := none }

def pool8 : Array CpInfo := pool [(1, .class_ 2), (0, u "com/example/berth/berth/engine/Rule"), (0, .class_ 4), (0, u "java/lang/Object")] 9

/-- com/example/berth/berth/engine/Rule -/
def k8 : Class := { plain "com/example/berth/berth/engine/Rule" (some 0) with
  accessFlags := 1537
  interfaces := #[]
  cf := some (fileOf pool8 1 #[] #[] 1537 3 #[] #[])
  fields := #[]
  methods := #[]
  instanceTypes := #[]
  staticTypes := #[]
  resolved := Array.replicate 14 none
  statics := none }

def pool9 : Array CpInfo := pool [(1, .class_ 2), (0, u "com/example/berth/berth/engine/GroupKind"), (2, u "AFFINITY"), (0, u "Lcom/example/berth/berth/engine/GroupKind;"), (2, u "ANTI_AFFINITY"), (2, u "FAULT_DOMAIN"), (2, u "$VALUES"), (0, u "[Lcom/example/berth/berth/engine/GroupKind;"), (6, .class_ 25), (1, u "java/lang/Enum"), (8, u "code"), (0, u "Ljava/lang/String;"), (2, u "rejection"), (0, u "Lcom/example/berth/berth/engine/Rejection;"), (2, u "violation"), (0, u "Lcom/example/berth/berth/engine/Violation$Kind;"), (20, .class_ 65), (0, u "com/example/berth/berth/engine/GroupKind$1"), (15, .class_ 82), (0, u "com/example/berth/berth/engine/GroupKind$2"), (9, .class_ 93), (0, u "com/example/berth/berth/engine/GroupKind$3"), (12, .class_ 107), (0, u "com/example/berth/berth/engine/Rule")] 28

/-- com/example/berth/berth/engine/GroupKind -/
def k9 : Class := { plain "com/example/berth/berth/engine/GroupKind" (some 7) with
  accessFlags := 17441
  interfaces := #[8]
  cf := some (fileOf pool9 1 #[.nestMembers #[92, 81, 64]] #[] 17441 23 #[106] #[{ accessFlags := 16409, nameIndex := 5, descriptorIndex := 6, attributes := #[] }, { accessFlags := 16409, nameIndex := 9, descriptorIndex := 6, attributes := #[] }, { accessFlags := 16409, nameIndex := 12, descriptorIndex := 6, attributes := #[] }, { accessFlags := 18, nameIndex := 34, descriptorIndex := 35, attributes := #[] }, { accessFlags := 18, nameIndex := 38, descriptorIndex := 39, attributes := #[] }, { accessFlags := 18, nameIndex := 42, descriptorIndex := 43, attributes := #[] }, { accessFlags := 4122, nameIndex := 15, descriptorIndex := 16, attributes := #[] }])
  fields := #[{ name := "AFFINITY", type := (.object "com/example/berth/berth/engine/GroupKind"), accessFlags := 16409, slot := 0, constantValue := 0 }, { name := "ANTI_AFFINITY", type := (.object "com/example/berth/berth/engine/GroupKind"), accessFlags := 16409, slot := 1, constantValue := 0 }, { name := "FAULT_DOMAIN", type := (.object "com/example/berth/berth/engine/GroupKind"), accessFlags := 16409, slot := 2, constantValue := 0 }, { name := "code", type := (.object "java/lang/String"), accessFlags := 18, slot := 3, constantValue := 0 }, { name := "rejection", type := (.object "com/example/berth/berth/engine/Rejection"), accessFlags := 18, slot := 4, constantValue := 0 }, { name := "violation", type := (.object "com/example/berth/berth/engine/Violation$Kind"), accessFlags := 18, slot := 5, constantValue := 0 }, { name := "$VALUES", type := (.array (.object "com/example/berth/berth/engine/GroupKind")), accessFlags := 4122, slot := 3, constantValue := 0 }]
  methods := #[]
  instanceTypes := #[(.object "java/lang/String"), .int, .int, (.object "java/lang/String"), (.object "com/example/berth/berth/engine/Rejection"), (.object "com/example/berth/berth/engine/Violation$Kind")]
  staticTypes := #[(.object "com/example/berth/berth/engine/GroupKind"), (.object "com/example/berth/berth/engine/GroupKind"), (.object "com/example/berth/berth/engine/GroupKind"), (.array (.object "com/example/berth/berth/engine/GroupKind"))]
  resolved := Array.replicate 136 none
  statics := some 0 }

def pool10 : Array CpInfo := pool [(2, .class_ 4), (1, u "java/lang/CharSequence"), (42, .class_ 48), (0, u "java/lang/CharSequence$1CodePointIterator"), (10, .class_ 60), (0, u "java/lang/CharSequence$1CharIterator"), (5, .class_ 67), (0, u "java/lang/Object")] 63

/-- java/lang/CharSequence -/
def k10 : Class := { plain "java/lang/CharSequence" (some 0) with
  accessFlags := 1537
  interfaces := #[]
  cf := some (fileOf pool10 2 #[.nestMembers #[47, 59]] #[] 1537 66 #[] #[])
  fields := #[]
  methods := #[]
  instanceTypes := #[]
  staticTypes := #[]
  resolved := Array.replicate 131 none
  statics := none }

def pool11 : Array CpInfo := pool [(1, .class_ 2), (0, u "java/lang/constant/ConstantDesc"), (0, .class_ 4), (0, u "java/lang/Object")] 32

/-- java/lang/constant/ConstantDesc -/
def k11 : Class := { plain "java/lang/constant/ConstantDesc" (some 0) with
  accessFlags := 1537
  interfaces := #[]
  cf := some (fileOf pool11 1 #[] #[] 1537 3 #[] #[])
  fields := #[]
  methods := #[]
  instanceTypes := #[]
  staticTypes := #[]
  resolved := Array.replicate 37 none
  statics := none }

def pool12 : Array CpInfo := pool [(1, .methodref 2 3), (0, .class_ 4), (0, .nameAndType 5 6), (0, u "java/lang/Object"), (0, u "<init>"), (0, u "()V"), (0, .string 8), (0, u ""), (0, .fieldref 10 11), (0, .class_ 12), (0, .nameAndType 13 14), (0, u "java/lang/String"), (0, u "value"), (0, u "[B"), (0, .fieldref 10 16), (0, .nameAndType 17 18), (0, u "coder"), (0, u "B"), (2, u "hash"), (0, u "I"), (2, u "hashIsZero"), (0, u "Z"), (0, .methodref 10 28), (0, .nameAndType 5 29), (0, u "([CIILjava/lang/Void;)V"), (8, .fieldref 10 39), (0, .nameAndType 40 26), (0, u "COMPACT_STRINGS"), (1, .class_ 44), (1, u "java/lang/StringUTF16"), (0, u "compress"), (1, .methodref 42 48), (0, .nameAndType 49 50), (0, u "coderFromArrayLen"), (0, u "([BI)B"), (2, u "toBytes"), (53, .class_ 109), (1, u "java/lang/StringLatin1"), (67, .methodref 42 178), (0, .nameAndType 45 179), (0, u "([CII)[B"), (29, .methodref 10 210), (0, .nameAndType 5 211), (0, u "([BB)V"), (157, u "(C)Z"), (171, .methodref 107 542), (0, .nameAndType 543 544), (0, u "equals"), (0, u "([B[B)Z"), (28, u "(Ljava/lang/Object;)Z"), (1, .class_ 576), (0, u "java/lang/CharSequence"), (22, u "CASE_INSENSITIVE_ORDER"), (0, u "Ljava/util/Comparator;"), (181, u "valueOf"), (0, u "(C)Ljava/lang/String;"), (226, u "([C)V"), (4, .methodref 107 1016), (0, .nameAndType 1017 369), (0, u "canEncode"), (0, .methodref 107 1019), (0, .nameAndType 53 1020), (0, u "(C)[B"), (80, u "serialPersistentFields"), (0, u "[Ljava/io/ObjectStreamField;"), (0, .class_ 1104), (0, u "java/lang/String$CaseInsensitiveComparator"), (1, .class_ 1107), (0, u "java/io/Serializable"), (0, .class_ 1109), (0, u "java/lang/Comparable"), (0, .class_ 1111), (0, u "java/lang/constant/Constable"), (0, .class_ 1113), (0, u "java/lang/constant/ConstantDesc"), (2, u "serialVersionUID"), (0, u "J"), (3, u "REPL"), (0, u "C"), (2, u "LATIN1"), (1, u "UTF16")] 323

def k12m0 : Method := { name := "<init>", desc := "()V", sig := { parameters := [], returnType := none }, accessFlags := 1, code := none }
def k12c1 : Code := { maxStack := 5, maxLocals := 2, code := jdk_42_method_3_code, exceptionTable := #[], attributes := #[] }
def k12m1 : Method := { name := "<init>", desc := "([C)V", sig := { parameters := [(.array .char)], returnType := none }, accessFlags := 1, code := some k12c1 }
def k12c2 : Code := { maxStack := 2, maxLocals := 3, code := jdk_42_method_66_code, exceptionTable := #[], attributes := #[] }
def k12m2 : Method := { name := "equals", desc := "(Ljava/lang/Object;)Z", sig := { parameters := [(.object "java/lang/Object")], returnType := some .boolean }, accessFlags := 1, code := some k12c2 }
def k12c3 : Code := { maxStack := 4, maxLocals := 1, code := jdk_42_method_139_code, exceptionTable := #[], attributes := #[] }
def k12m3 : Method := { name := "valueOf", desc := "(C)Ljava/lang/String;", sig := { parameters := [.char], returnType := some (.object "java/lang/String") }, accessFlags := 9, code := some k12c3 }
def k12c4 : Code := { maxStack := 4, maxLocals := 6, code := jdk_42_method_149_code, exceptionTable := #[], attributes := #[] }
def k12m4 : Method := { name := "<init>", desc := "([CIILjava/lang/Void;)V", sig := { parameters := [(.array .char), .int, .int, (.object "java/lang/Void")], returnType := none }, accessFlags := 2, code := some k12c4 }
def k12c5 : Code := { maxStack := 2, maxLocals := 3, code := jdk_42_method_151_code, exceptionTable := #[], attributes := #[] }
def k12m5 : Method := { name := "<init>", desc := "([BB)V", sig := { parameters := [(.array .byte), .byte], returnType := none }, accessFlags := 0, code := some k12c5 }
/-- java/lang/String -/
def k12 : Class := { plain "java/lang/String" (some 0) with
  accessFlags := 49
  interfaces := #[6, 5, 10, 4, 11]
  cf := some (fileOf pool12 10 #[.nestMembers #[1103]] #[{ accessFlags := 1, nameIndex := 5, descriptorIndex := 6, attributes := #[] }, { accessFlags := 1, nameIndex := 5, descriptorIndex := 1010, attributes := #[] }, { accessFlags := 1, nameIndex := 543, descriptorIndex := 573, attributes := #[] }, { accessFlags := 9, nameIndex := 782, descriptorIndex := 783, attributes := #[] }, { accessFlags := 2, nameIndex := 5, descriptorIndex := 29, attributes := #[] }, { accessFlags := 0, nameIndex := 5, descriptorIndex := 211, attributes := #[] }] 49 2 #[1106, 1108, 575, 1110, 1112] #[{ accessFlags := 18, nameIndex := 13, descriptorIndex := 14, attributes := #[] }, { accessFlags := 18, nameIndex := 17, descriptorIndex := 18, attributes := #[] }, { accessFlags := 2, nameIndex := 21, descriptorIndex := 22, attributes := #[] }, { accessFlags := 2, nameIndex := 25, descriptorIndex := 26, attributes := #[] }, { accessFlags := 26, nameIndex := 1116, descriptorIndex := 1117, attributes := #[] }, { accessFlags := 24, nameIndex := 40, descriptorIndex := 26, attributes := #[] }, { accessFlags := 26, nameIndex := 1101, descriptorIndex := 1102, attributes := #[] }, { accessFlags := 26, nameIndex := 1121, descriptorIndex := 1122, attributes := #[] }, { accessFlags := 25, nameIndex := 599, descriptorIndex := 600, attributes := #[] }, { accessFlags := 24, nameIndex := 1125, descriptorIndex := 18, attributes := #[] }, { accessFlags := 24, nameIndex := 1127, descriptorIndex := 18, attributes := #[] }])
  fields := #[{ name := "value", type := (.array .byte), accessFlags := 18, slot := 0, constantValue := 0 }, { name := "coder", type := .byte, accessFlags := 18, slot := 1, constantValue := 0 }, { name := "hash", type := .int, accessFlags := 2, slot := 2, constantValue := 0 }, { name := "hashIsZero", type := .boolean, accessFlags := 2, slot := 3, constantValue := 0 }, { name := "serialVersionUID", type := .long, accessFlags := 26, slot := 0, constantValue := 0 }, { name := "COMPACT_STRINGS", type := .boolean, accessFlags := 24, slot := 1, constantValue := 0 }, { name := "serialPersistentFields", type := (.array (.object "java/io/ObjectStreamField")), accessFlags := 26, slot := 2, constantValue := 0 }, { name := "REPL", type := .char, accessFlags := 26, slot := 3, constantValue := 0 }, { name := "CASE_INSENSITIVE_ORDER", type := (.object "java/util/Comparator"), accessFlags := 25, slot := 4, constantValue := 0 }, { name := "LATIN1", type := .byte, accessFlags := 24, slot := 5, constantValue := 0 }, { name := "UTF16", type := .byte, accessFlags := 24, slot := 6, constantValue := 0 }]
  methods := #[k12m0, k12m1, k12m2, k12m3, k12m4, k12m5]
  instanceTypes := #[(.array .byte), .byte, .int, .boolean]
  staticTypes := #[.long, .boolean, (.array (.object "java/io/ObjectStreamField")), .char, (.object "java/util/Comparator"), .byte, .byte]
  resolved := Array.replicate 1451 none
  statics := some 1 }

def pool13 : Array CpInfo := pool [(2, .class_ 4), (1, u "java/lang/Object"), (0, u "<init>"), (0, u "()V"), (35, .class_ 44), (1, u "java/util/Objects"), (0, u "requireNonNull"), (48, u "(Ljava/lang/Object;Ljava/lang/String;)Ljava/lang/Object;")] 89

def k13m0 : Method := { name := "<init>", desc := "()V", sig := { parameters := [], returnType := none }, accessFlags := 2, code := none }
def k13c1 : Code := { maxStack := 3, maxLocals := 2, code := jdk_31_method_11_code, exceptionTable := #[], attributes := #[] }
def k13m1 : Method := { name := "requireNonNull", desc := "(Ljava/lang/Object;Ljava/lang/String;)Ljava/lang/Object;", sig := { parameters := [(.object "java/lang/Object"), (.object "java/lang/String")], returnType := some (.object "java/lang/Object") }, accessFlags := 9, code := some k13c1 }
/-- java/util/Objects -/
def k13 : Class := { plain "java/util/Objects" (some 0) with
  accessFlags := 49
  interfaces := #[]
  cf := some (fileOf pool13 42 #[] #[{ accessFlags := 2, nameIndex := 5, descriptorIndex := 6, attributes := #[] }, { accessFlags := 9, nameIndex := 45, descriptorIndex := 94, attributes := #[] }] 49 2 #[] #[])
  fields := #[]
  methods := #[k13m0, k13m1]
  instanceTypes := #[]
  staticTypes := #[]
  resolved := Array.replicate 184 none
  statics := none }

def pool14 : Array CpInfo := pool [(4, .class_ 6), (1, u "java/lang/Object"), (0, u "<init>"), (0, u "()V"), (5, .class_ 16), (1, u "java/lang/StringLatin1"), (73, u "canEncode"), (14, u "(C)Z"), (15, u "$assertionsDisabled"), (0, u "Z"), (98, .class_ 223), (1, u "java/lang/StringLatin1$LinesSpliterator"), (57, u "equals"), (0, u "([B[B)Z"), (97, u "toBytes"), (1, u "(C)[B"), (7, .class_ 391), (0, u "java/lang/StringLatin1$CharsSpliterator")] 3

def k14m0 : Method := { name := "<init>", desc := "()V", sig := { parameters := [], returnType := none }, accessFlags := 0, code := none }
def k14c1 : Code := { maxStack := 2, maxLocals := 1, code := jdk_43_method_3_code, exceptionTable := #[], attributes := #[] }
def k14m1 : Method := { name := "canEncode", desc := "(C)Z", sig := { parameters := [.char], returnType := some .boolean }, accessFlags := 9, code := some k14c1 }
def k14c2 : Code := { maxStack := 3, maxLocals := 3, code := jdk_43_method_13_code, exceptionTable := #[], attributes := #[] }
def k14m2 : Method := { name := "equals", desc := "([B[B)Z", sig := { parameters := [(.array .byte), (.array .byte)], returnType := some .boolean }, accessFlags := 9, code := some k14c2 }
def k14c3 : Code := { maxStack := 4, maxLocals := 1, code := jdk_43_method_46_code, exceptionTable := #[], attributes := #[] }
def k14m3 : Method := { name := "toBytes", desc := "(C)[B", sig := { parameters := [.char], returnType := some (.array .byte) }, accessFlags := 9, code := some k14c3 }
/-- java/lang/StringLatin1 -/
def k14 : Class := { plain "java/lang/StringLatin1" (some 0) with
  accessFlags := 48
  interfaces := #[]
  cf := some (fileOf pool14 14 #[.nestMembers #[390, 221]] #[{ accessFlags := 0, nameIndex := 7, descriptorIndex := 8, attributes := #[] }, { accessFlags := 9, nameIndex := 90, descriptorIndex := 105, attributes := #[] }, { accessFlags := 9, nameIndex := 281, descriptorIndex := 282, attributes := #[] }, { accessFlags := 9, nameIndex := 380, descriptorIndex := 382, attributes := #[] }] 48 4 #[] #[{ accessFlags := 4120, nameIndex := 121, descriptorIndex := 122, attributes := #[] }])
  fields := #[{ name := "$assertionsDisabled", type := .boolean, accessFlags := 4120, slot := 0, constantValue := 0 }]
  methods := #[k14m0, k14m1, k14m2, k14m3]
  instanceTypes := #[]
  staticTypes := #[.boolean]
  resolved := Array.replicate 395 none
  statics := none }

def pool15 : Array CpInfo := pool [(2, .class_ 4), (1, u "com/example/berth/berth/engine/GroupKind"), (18, .class_ 24), (0, u "com/example/berth/berth/engine/GroupKind$1")] 18

/-- com/example/berth/berth/engine/GroupKind$1 -/
def k15 : Class := { plain "com/example/berth/berth/engine/GroupKind$1" (some 9) with
  accessFlags := 16432
  interfaces := #[]
  cf := some (fileOf pool15 23 #[.nestHost 2] #[] 16432 2 #[] #[])
  fields := #[]
  methods := #[]
  instanceTypes := #[(.object "java/lang/String"), .int, .int, (.object "java/lang/String"), (.object "com/example/berth/berth/engine/Rejection"), (.object "com/example/berth/berth/engine/Violation$Kind")]
  staticTypes := #[]
  resolved := Array.replicate 43 none
  statics := none }

def pool16 : Array CpInfo := pool [(2, .class_ 4), (1, u "com/example/berth/berth/engine/GroupKind"), (30, .class_ 36), (0, u "com/example/berth/berth/engine/GroupKind$3")] 16

/-- com/example/berth/berth/engine/GroupKind$3 -/
def k16 : Class := { plain "com/example/berth/berth/engine/GroupKind$3" (some 9) with
  accessFlags := 16432
  interfaces := #[]
  cf := some (fileOf pool16 35 #[.nestHost 2] #[] 16432 2 #[] #[])
  fields := #[]
  methods := #[]
  instanceTypes := #[(.object "java/lang/String"), .int, .int, (.object "java/lang/String"), (.object "com/example/berth/berth/engine/Rejection"), (.object "com/example/berth/berth/engine/Violation$Kind")]
  staticTypes := #[]
  resolved := Array.replicate 53 none
  statics := none }

def pool17 : Array CpInfo := pool [(6, .class_ 8), (1, u "java/lang/Object"), (0, u "<init>"), (0, u "()V"), (1, .class_ 14), (1, u "java/lang/StringUTF16"), (31, u "$assertionsDisabled"), (0, u "Z"), (13, u "HI_BYTE_SHIFT"), (0, u "I"), (2, u "LO_BYTE_SHIFT"), (49, .methodref 12 116), (0, .nameAndType 117 118), (0, u "compress"), (0, u "([CI[BII)I"), (3, u "([CII)[B"), (138, u "coderFromArrayLen"), (0, u "([BI)B"), (106, .class_ 371), (1, u "java/lang/StringUTF16$LinesSpliterator"), (58, u "MAX_LENGTH"), (196, .class_ 628), (0, u "java/lang/StringUTF16$CodePointsSpliterator"), (0, .class_ 630), (0, u "java/lang/StringUTF16$CharsSpliterator")] 4

def k17m0 : Method := { name := "<init>", desc := "()V", sig := { parameters := [], returnType := none }, accessFlags := 0, code := none }
def k17c1 : Code := { maxStack := 2, maxLocals := 2, code := jdk_52_method_15_code, exceptionTable := #[], attributes := #[] }
def k17m1 : Method := { name := "coderFromArrayLen", desc := "([BI)B", sig := { parameters := [(.array .byte), .int], returnType := some .byte }, accessFlags := 8, code := some k17c1 }
def k17c2 : Code := { maxStack := 5, maxLocals := 6, code := jdk_52_method_16_code, exceptionTable := #[], attributes := #[] }
def k17m2 : Method := { name := "compress", desc := "([CII)[B", sig := { parameters := [(.array .char), .int, .int], returnType := some (.array .byte) }, accessFlags := 9, code := some k17c2 }
def k17c3 : Code := { maxStack := 3, maxLocals := 7, code := jdk_52_method_21_code, exceptionTable := #[], attributes := #[] }
def k17m3 : Method := { name := "compress", desc := "([CI[BII)I", sig := { parameters := [(.array .char), .int, (.array .byte), .int, .int], returnType := some .int }, accessFlags := 9, code := some k17c3 }
/-- java/lang/StringUTF16 -/
def k17 : Class := { plain "java/lang/StringUTF16" (some 0) with
  accessFlags := 48
  interfaces := #[]
  cf := some (fileOf pool17 12 #[.nestMembers #[627, 629, 369]] #[{ accessFlags := 0, nameIndex := 9, descriptorIndex := 10, attributes := #[] }, { accessFlags := 8, nameIndex := 261, descriptorIndex := 262, attributes := #[] }, { accessFlags := 9, nameIndex := 117, descriptorIndex := 122, attributes := #[] }, { accessFlags := 9, nameIndex := 117, descriptorIndex := 118, attributes := #[] }] 48 6 #[] #[{ accessFlags := 26, nameIndex := 61, descriptorIndex := 62, attributes := #[] }, { accessFlags := 26, nameIndex := 65, descriptorIndex := 62, attributes := #[] }, { accessFlags := 24, nameIndex := 430, descriptorIndex := 62, attributes := #[] }, { accessFlags := 4120, nameIndex := 46, descriptorIndex := 47, attributes := #[] }])
  fields := #[{ name := "HI_BYTE_SHIFT", type := .int, accessFlags := 26, slot := 0, constantValue := 0 }, { name := "LO_BYTE_SHIFT", type := .int, accessFlags := 26, slot := 1, constantValue := 0 }, { name := "MAX_LENGTH", type := .int, accessFlags := 24, slot := 2, constantValue := 0 }, { name := "$assertionsDisabled", type := .boolean, accessFlags := 4120, slot := 3, constantValue := 0 }]
  methods := #[k17m0, k17m1, k17m2, k17m3]
  instanceTypes := #[]
  staticTypes := #[.int, .int, .int, .boolean]
  resolved := Array.replicate 635 none
  statics := none }

def pool18 : Array CpInfo := pool [(2, .class_ 4), (1, u "com/example/berth/berth/engine/GroupKind"), (8, .class_ 14), (0, u "com/example/berth/berth/engine/GroupKind$2")] 16

/-- com/example/berth/berth/engine/GroupKind$2 -/
def k18 : Class := { plain "com/example/berth/berth/engine/GroupKind$2" (some 9) with
  accessFlags := 16432
  interfaces := #[]
  cf := some (fileOf pool18 13 #[.nestHost 2] #[] 16432 2 #[] #[])
  fields := #[]
  methods := #[]
  instanceTypes := #[(.object "java/lang/String"), .int, .int, (.object "java/lang/String"), (.object "com/example/berth/berth/engine/Rejection"), (.object "com/example/berth/berth/engine/Violation$Kind")]
  staticTypes := #[]
  resolved := Array.replicate 31 none
  statics := none }

def pool19 : Array CpInfo := pool [(2, .class_ 4), (1, u "java/lang/Object"), (0, u "<init>"), (0, u "()V"), (17, .class_ 26), (1, u "jdk/internal/util/Preconditions"), (28, .class_ 56), (0, u "jdk/internal/util/Preconditions$4"), (57, .class_ 115), (0, u "jdk/internal/util/Preconditions$1"), (7, u "SIOOBE_FORMATTER"), (0, u "Ljava/util/function/BiFunction;"), (0, .class_ 126), (0, u "jdk/internal/util/Preconditions$2"), (3, u "AIOOBE_FORMATTER"), (0, .class_ 132), (0, u "jdk/internal/util/Preconditions$3"), (3, u "IOOBE_FORMATTER")] 57

def k19m0 : Method := { name := "<init>", desc := "()V", sig := { parameters := [], returnType := none }, accessFlags := 1, code := none }
/-- jdk/internal/util/Preconditions -/
def k19 : Class := { plain "jdk/internal/util/Preconditions" (some 0) with
  accessFlags := 33
  interfaces := #[]
  cf := some (fileOf pool19 24 #[.nestMembers #[55, 131, 125, 114]] #[{ accessFlags := 1, nameIndex := 5, descriptorIndex := 6, attributes := #[] }] 33 2 #[] #[{ accessFlags := 25, nameIndex := 123, descriptorIndex := 124, attributes := #[] }, { accessFlags := 25, nameIndex := 130, descriptorIndex := 124, attributes := #[] }, { accessFlags := 25, nameIndex := 136, descriptorIndex := 124, attributes := #[] }])
  fields := #[{ name := "SIOOBE_FORMATTER", type := (.object "java/util/function/BiFunction"), accessFlags := 25, slot := 0, constantValue := 0 }, { name := "AIOOBE_FORMATTER", type := (.object "java/util/function/BiFunction"), accessFlags := 25, slot := 1, constantValue := 0 }, { name := "IOOBE_FORMATTER", type := (.object "java/util/function/BiFunction"), accessFlags := 25, slot := 2, constantValue := 0 }]
  methods := #[k19m0]
  instanceTypes := #[]
  staticTypes := #[(.object "java/util/function/BiFunction"), (.object "java/util/function/BiFunction"), (.object "java/util/function/BiFunction")]
  resolved := Array.replicate 194 none
  statics := some 2 }

def pool20 : Array CpInfo := pool [(9, u "<init>"), (6, .class_ 18), (1, u "java/lang/Object"), (0, u "()V"), (1, .class_ 23), (1, u "jdk/internal/util/ArraysSupport"), (0, u "LOG2_ARRAY_LONG_INDEX_SCALE"), (0, u "I"), (2, u "U"), (0, u "Ljdk/internal/misc/Unsafe;"), (8, u "BIG_ENDIAN"), (0, u "Z"), (8, u "LOG2_BYTE_BIT_SIZE"), (4, u "LOG2_ARRAY_INT_INDEX_SCALE"), (54, u "JLA"), (0, u "Ljdk/internal/access/JavaLangAccess;"), (11, u "LOG2_ARRAY_BOOLEAN_INDEX_SCALE"), (9, u "LOG2_ARRAY_BYTE_INDEX_SCALE"), (5, u "LOG2_ARRAY_CHAR_INDEX_SCALE"), (5, u "LOG2_ARRAY_SHORT_INDEX_SCALE"), (18, u "LOG2_ARRAY_FLOAT_INDEX_SCALE"), (24, u "LOG2_ARRAY_DOUBLE_INDEX_SCALE"), (89, u "T_BOOLEAN"), (2, u "T_CHAR"), (1, u "T_FLOAT"), (1, u "T_DOUBLE"), (1, u "T_BYTE"), (1, u "T_SHORT"), (1, u "T_INT"), (1, u "T_LONG"), (1, u "SOFT_MAX_ARRAY_LENGTH")] 83

def k20m0 : Method := { name := "<init>", desc := "()V", sig := { parameters := [], returnType := none }, accessFlags := 2, code := none }
/-- jdk/internal/util/ArraysSupport -/
def k20 : Class := { plain "jdk/internal/util/ArraysSupport" (some 0) with
  accessFlags := 33
  interfaces := #[]
  cf := some (fileOf pool20 21 #[] #[{ accessFlags := 2, nameIndex := 9, descriptorIndex := 19, attributes := #[] }] 33 16 #[] #[{ accessFlags := 24, nameIndex := 28, descriptorIndex := 29, attributes := #[] }, { accessFlags := 26, nameIndex := 38, descriptorIndex := 39, attributes := #[] }, { accessFlags := 25, nameIndex := 121, descriptorIndex := 25, attributes := #[] }, { accessFlags := 25, nameIndex := 131, descriptorIndex := 25, attributes := #[] }, { accessFlags := 25, nameIndex := 137, descriptorIndex := 25, attributes := #[] }, { accessFlags := 25, nameIndex := 143, descriptorIndex := 25, attributes := #[] }, { accessFlags := 25, nameIndex := 53, descriptorIndex := 25, attributes := #[] }, { accessFlags := 25, nameIndex := 24, descriptorIndex := 25, attributes := #[] }, { accessFlags := 25, nameIndex := 162, descriptorIndex := 25, attributes := #[] }, { accessFlags := 25, nameIndex := 187, descriptorIndex := 25, attributes := #[] }, { accessFlags := 26, nameIndex := 48, descriptorIndex := 25, attributes := #[] }, { accessFlags := 25, nameIndex := 277, descriptorIndex := 25, attributes := #[] }, { accessFlags := 25, nameIndex := 280, descriptorIndex := 25, attributes := #[] }, { accessFlags := 25, nameIndex := 282, descriptorIndex := 25, attributes := #[] }, { accessFlags := 25, nameIndex := 284, descriptorIndex := 25, attributes := #[] }, { accessFlags := 25, nameIndex := 286, descriptorIndex := 25, attributes := #[] }, { accessFlags := 25, nameIndex := 288, descriptorIndex := 25, attributes := #[] }, { accessFlags := 25, nameIndex := 290, descriptorIndex := 25, attributes := #[] }, { accessFlags := 25, nameIndex := 292, descriptorIndex := 25, attributes := #[] }, { accessFlags := 26, nameIndex := 108, descriptorIndex := 109, attributes := #[] }, { accessFlags := 25, nameIndex := 294, descriptorIndex := 25, attributes := #[] }])
  fields := #[{ name := "U", type := (.object "jdk/internal/misc/Unsafe"), accessFlags := 24, slot := 0, constantValue := 0 }, { name := "BIG_ENDIAN", type := .boolean, accessFlags := 26, slot := 1, constantValue := 0 }, { name := "LOG2_ARRAY_BOOLEAN_INDEX_SCALE", type := .int, accessFlags := 25, slot := 2, constantValue := 0 }, { name := "LOG2_ARRAY_BYTE_INDEX_SCALE", type := .int, accessFlags := 25, slot := 3, constantValue := 0 }, { name := "LOG2_ARRAY_CHAR_INDEX_SCALE", type := .int, accessFlags := 25, slot := 4, constantValue := 0 }, { name := "LOG2_ARRAY_SHORT_INDEX_SCALE", type := .int, accessFlags := 25, slot := 5, constantValue := 0 }, { name := "LOG2_ARRAY_INT_INDEX_SCALE", type := .int, accessFlags := 25, slot := 6, constantValue := 0 }, { name := "LOG2_ARRAY_LONG_INDEX_SCALE", type := .int, accessFlags := 25, slot := 7, constantValue := 0 }, { name := "LOG2_ARRAY_FLOAT_INDEX_SCALE", type := .int, accessFlags := 25, slot := 8, constantValue := 0 }, { name := "LOG2_ARRAY_DOUBLE_INDEX_SCALE", type := .int, accessFlags := 25, slot := 9, constantValue := 0 }, { name := "LOG2_BYTE_BIT_SIZE", type := .int, accessFlags := 26, slot := 10, constantValue := 0 }, { name := "T_BOOLEAN", type := .int, accessFlags := 25, slot := 11, constantValue := 0 }, { name := "T_CHAR", type := .int, accessFlags := 25, slot := 12, constantValue := 0 }, { name := "T_FLOAT", type := .int, accessFlags := 25, slot := 13, constantValue := 0 }, { name := "T_DOUBLE", type := .int, accessFlags := 25, slot := 14, constantValue := 0 }, { name := "T_BYTE", type := .int, accessFlags := 25, slot := 15, constantValue := 0 }, { name := "T_SHORT", type := .int, accessFlags := 25, slot := 16, constantValue := 0 }, { name := "T_INT", type := .int, accessFlags := 25, slot := 17, constantValue := 0 }, { name := "T_LONG", type := .int, accessFlags := 25, slot := 18, constantValue := 0 }, { name := "JLA", type := (.object "jdk/internal/access/JavaLangAccess"), accessFlags := 26, slot := 19, constantValue := 0 }, { name := "SOFT_MAX_ARRAY_LENGTH", type := .int, accessFlags := 25, slot := 20, constantValue := 0 }]
  methods := #[k20m0]
  instanceTypes := #[]
  staticTypes := #[(.object "jdk/internal/misc/Unsafe"), .boolean, .int, .int, .int, .int, .int, .int, .int, .int, .int, .int, .int, .int, .int, .int, .int, .int, .int, (.object "jdk/internal/access/JavaLangAccess"), .int]
  resolved := Array.replicate 378 none
  statics := none }

def pool21 : Array CpInfo := pool [(1, u "java/lang/Cloneable"), (0, .class_ 1), (0, u "java/lang/Object"), (0, .class_ 3)] 3

/-- java/lang/Cloneable -/
def k21 : Class := { plain "java/lang/Cloneable" (some 0) with
  accessFlags := 1537
  interfaces := #[]
  cf := some (fileOf pool21 2 #[] #[] 1537 4 #[] #[])
  fields := #[]
  methods := #[]
  instanceTypes := #[]
  staticTypes := #[]
  resolved := Array.replicate 8 none
  statics := none }

/-- the primitive byte -/
def k22 : Class := { plain "byte" none with kind := .primitive 'B', accessFlags := 0x411 }
/-- [B -/
def k23 : Class := { plain "[B" (some 0) with kind := .array 22 .byte, interfaces := #[21, 6], accessFlags := 1041 }

/-- the primitive char -/
def k24 : Class := { plain "char" none with kind := .primitive 'C', accessFlags := 0x411 }
/-- [C -/
def k25 : Class := { plain "[C" (some 0) with kind := .array 24 .char, interfaces := #[21, 6], accessFlags := 1041 }

/-- the primitive int -/
def k26 : Class := { plain "int" none with kind := .primitive 'I', accessFlags := 0x411 }
/-- [I -/
def k27 : Class := { plain "[I" (some 0) with kind := .array 26 .int, interfaces := #[21, 6], accessFlags := 1041 }

def heap : Heap := #[{ cls := 9, slots := #[.ref 3, .ref 4, .ref 5, .null], vm := .statics 9 },
  { cls := 12, slots := #[.long 0, .int 1, .null, .int 0, .null, .int 0, .int 0], vm := .statics 12 },
  { cls := 19, slots := #[.null, .null, .null], vm := .statics 19 },
  { cls := 15, slots := #[.null, .int 0, .int 0, .null, .null, .null], vm := .none },
  { cls := 18, slots := #[.null, .int 0, .int 0, .null, .null, .null], vm := .none },
  { cls := 16, slots := #[.null, .int 0, .int 0, .null, .null, .null], vm := .none }]
def classes : Array Class := #[k0, k1, k2, k3, k4, k5, k6, k7, k8, k9, k10, k11, k12, k13, k14, k15, k16, k17, k18, k19, k20, k21, k22, k23, k24, k25, k26, k27]
def interned : List (Array UInt16 × Addr) := []
def slotsUsed : Nat := 32
def theMethod : MethodId := ⟨1, 3⟩
def args0 : Array Value := #[.int 5, .int 6, .int 7, .int 8, .int 9]
def aboutOver (below : List Frame) : State where
  vm := { classes := classes, interned := interned.toArray }
  heap := heap
  slotsUsed := slotsUsed
  threads := #[{ frames := .invoking theMethod args0 :: below }]
def below0 : List Frame := [.native { method := ⟨0, 0⟩, args := #[] }]
def about1 : State := aboutOver below0
def p0 : Program := .bare "" "" ""
def e0 : Env := launch0.env 0 0 0
theorem w_frames : about1.frames = Frame.invoking theMethod args0 :: below0 := rfl
set_option maxRecDepth 65536 in
theorem w_args : argsFit about1.vm theMethod args0 = true := by decide +kernel
set_option maxRecDepth 65536 in
theorem w_heap : heapFits about1 = true := by decide +kernel
set_option maxRecDepth 65536 in
theorem w_runnable : about1.curStatus? = some .runnable := by decide +kernel
set_option maxRecDepth 65536 in
theorem w_alone : about1.alone = true := by decide +kernel
set_option maxRecDepth 65536 in
theorem w_named : about1.methodNamed? x = some theMethod := by decide +kernel
set_option maxRecDepth 65536 in
theorem w_hears : about1.hears theMethod below0 = true := by decide +kernel
set_option maxRecDepth 65536 in
theorem w_ripe : about1.ripe theMethod args0 below0 = true := by decide +kernel
theorem w_running : about1.status = .running := rfl
set_option maxRecDepth 65536 in
theorem w_room : about1.hasRoom e0.platform room_1 = true :=
  launch0.hasRoom_least _ room_1 (by decide +kernel) (by decide +kernel) (by decide +kernel) (by decide +kernel) (by decide +kernel) (by decide +kernel)
theorem allAtoms_all (ts : List Jvm.Cond) (a : Array Jvm.Value) (st : Jvm.State) : (allAtoms ts).before a st = ts.all (fun c => c.before a st) := by
  induction ts with
  | nil => rfl
  | cons c t ih =>
    show (Jvm.Cond.and c (allAtoms t)).before a st = _
    rw [Jvm.Cond.before_and, ih, List.all_cons]
def words1 : List Jvm.Cond := Jvm.Cond.code x code maxLocals ret :: tables_1
/-- a 'code' word, met by the world's own term for the bytes: nothing is compared byte by byte -/
theorem code_word {y : MethodName} {bytes : ByteArray} {mx : Nat} {rt : Option FieldType} {a : Array Value} {s : State} {m : MethodId} {meth : Method} {c : Code} (h1 : s.methodNamed? y = some m) (h2 : s.vm.method? m = some meth) (h3 : meth.code = some c) (h4 : c.code = bytes)
    (h5 : (c.maxLocals == mx && c.exceptionTable.isEmpty && decide (c.maxStack ≤ mostOperands) && decide (meth.sig.returnType = rt) && !meth.locks && decide (parseMethodDescriptor y.desc = some meth.sig)) = true) : (Jvm.Cond.code y bytes mx rt).before a s = true := by
  simp only [Bool.and_eq_true, beq_iff_eq, Bool.not_eq_true', decide_eq_true_eq] at h5
  obtain ⟨⟨⟨⟨⟨g1, g2⟩, g3⟩, g4⟩, g5⟩, g6⟩ := h5
  simp [Cond.before, Cond.holds, Cond.value, h1, h2, h3, h4, g1, g2, g3, g4, g5, g6]
def isCode : Jvm.Cond → Bool
  | .code _ _ _ _ => true
  | _ => false
theorem all_split {L : List Jvm.Cond} {P : Jvm.Cond → Bool} (h1 : L.all (fun c => isCode c || P c) = true) (h2 : ∀ c ∈ L.filter isCode, P c = true) : L.all P = true := by
  refine List.all_eq_true.mpr fun c hc => ?_
  have h := List.all_eq_true.mp h1 c hc
  rcases Bool.eq_false_or_eq_true (isCode c) with hi | hi
  · exact h2 c (List.mem_filter.mpr ⟨hc, hi⟩)
  · simpa [hi] using h
set_option maxRecDepth 65536 in
theorem w_c0 : (Jvm.Cond.code x code maxLocals ret).before args0 about1 = true := code_word (m := ⟨1, 3⟩) (meth := k1m3) (c := k1c3) (by decide +kernel) rfl rfl rfl (by decide +kernel)
set_option maxRecDepth 65536 in
theorem w_c1 : (Jvm.Cond.code ({ cls := "com/example/berth/berth/engine/GroupEqualsPinLaw", name := "kindOf", desc := "(I)Lcom/example/berth/berth/engine/GroupKind;" } : Jvm.MethodName) method_2_code (1 : Nat) (Option.some (Jvm.ClassFile.FieldType.object "com/example/berth/berth/engine/GroupKind"))).before args0 about1 = true := code_word (m := ⟨1, 1⟩) (meth := k1m1) (c := k1c1) (by decide +kernel) rfl rfl rfl (by decide +kernel)
set_option maxRecDepth 65536 in
theorem w_c2 : (Jvm.Cond.code ({ cls := "com/example/berth/berth/engine/GroupEqualsPinLaw", name := "idOf", desc := "(ICC)Ljava/lang/String;" } : Jvm.MethodName) method_3_code (4 : Nat) (Option.some (Jvm.ClassFile.FieldType.object "java/lang/String"))).before args0 about1 = true := code_word (m := ⟨1, 2⟩) (meth := k1m2) (c := k1c2) (by decide +kernel) rfl rfl rfl (by decide +kernel)
set_option maxRecDepth 65536 in
theorem w_c3 : (Jvm.Cond.code ({ cls := "java/lang/String", name := "<init>", desc := "([C)V" } : Jvm.MethodName) jdk_42_method_3_code (2 : Nat) (Option.none : Option Jvm.ClassFile.FieldType)).before args0 about1 = true := code_word (m := ⟨12, 1⟩) (meth := k12m1) (c := k12c1) (by decide +kernel) rfl rfl rfl (by decide +kernel)
set_option maxRecDepth 65536 in
theorem w_c4 : (Jvm.Cond.code ({ cls := "java/lang/String", name := "<init>", desc := "([CIILjava/lang/Void;)V" } : Jvm.MethodName) jdk_42_method_149_code (6 : Nat) (Option.none : Option Jvm.ClassFile.FieldType)).before args0 about1 = true := code_word (m := ⟨12, 4⟩) (meth := k12m4) (c := k12c4) (by decide +kernel) rfl rfl rfl (by decide +kernel)
set_option maxRecDepth 65536 in
theorem w_c5 : (Jvm.Cond.code ({ cls := "java/lang/Object", name := "<init>", desc := "()V" } : Jvm.MethodName) object_method_1_code (1 : Nat) (Option.none : Option Jvm.ClassFile.FieldType)).before args0 about1 = true := code_word (m := ⟨0, 0⟩) (meth := k0m0) (c := k0c0) (by decide +kernel) rfl rfl rfl (by decide +kernel)
set_option maxRecDepth 65536 in
theorem w_c6 : (Jvm.Cond.code ({ cls := "com/example/berth/berth/engine/Group", name := "<init>", desc := "(Lcom/example/berth/berth/engine/GroupKind;Ljava/lang/String;)V" } : Jvm.MethodName) prog_25_method_1_code (3 : Nat) (Option.none : Option Jvm.ClassFile.FieldType)).before args0 about1 = true := code_word (m := ⟨3, 0⟩) (meth := k3m0) (c := k3c0) (by decide +kernel) rfl rfl rfl (by decide +kernel)
set_option maxRecDepth 65536 in
theorem w_c7 : (Jvm.Cond.code ({ cls := "java/lang/Record", name := "<init>", desc := "()V" } : Jvm.MethodName) jdk_30_method_1_code (1 : Nat) (Option.none : Option Jvm.ClassFile.FieldType)).before args0 about1 = true := code_word (m := ⟨2, 0⟩) (meth := k2m0) (c := k2c0) (by decide +kernel) rfl rfl rfl (by decide +kernel)
set_option maxRecDepth 65536 in
theorem w_c8 : (Jvm.Cond.code ({ cls := "java/util/Objects", name := "requireNonNull", desc := "(Ljava/lang/Object;Ljava/lang/String;)Ljava/lang/Object;" } : Jvm.MethodName) jdk_31_method_11_code (2 : Nat) (Option.some (Jvm.ClassFile.FieldType.object "java/lang/Object"))).before args0 about1 = true := code_word (m := ⟨13, 1⟩) (meth := k13m1) (c := k13c1) (by decide +kernel) rfl rfl rfl (by decide +kernel)
set_option maxRecDepth 65536 in
theorem w_c9 : (Jvm.Cond.code ({ cls := "com/example/berth/berth/engine/Group", name := "equals", desc := "(Ljava/lang/Object;)Z" } : Jvm.MethodName) prog_25_method_2_code (3 : Nat) (Option.some Jvm.ClassFile.FieldType.boolean)).before args0 about1 = true := code_word (m := ⟨3, 1⟩) (meth := k3m1) (c := k3c1) (by decide +kernel) rfl rfl rfl (by decide +kernel)
set_option maxRecDepth 65536 in
theorem w_c10 : (Jvm.Cond.code ({ cls := "java/lang/String", name := "equals", desc := "(Ljava/lang/Object;)Z" } : Jvm.MethodName) jdk_42_method_66_code (3 : Nat) (Option.some Jvm.ClassFile.FieldType.boolean)).before args0 about1 = true := code_word (m := ⟨12, 2⟩) (meth := k12m2) (c := k12c2) (by decide +kernel) rfl rfl rfl (by decide +kernel)
set_option maxRecDepth 65536 in
theorem w_c11 : (Jvm.Cond.code ({ cls := "java/lang/StringLatin1", name := "equals", desc := "([B[B)Z" } : Jvm.MethodName) jdk_43_method_13_code (3 : Nat) (Option.some Jvm.ClassFile.FieldType.boolean)).before args0 about1 = true := code_word (m := ⟨14, 2⟩) (meth := k14m2) (c := k14c2) (by decide +kernel) rfl rfl rfl (by decide +kernel)
set_option maxRecDepth 65536 in
theorem w_c12 : (Jvm.Cond.code ({ cls := "java/lang/String", name := "valueOf", desc := "(C)Ljava/lang/String;" } : Jvm.MethodName) jdk_42_method_139_code (1 : Nat) (Option.some (Jvm.ClassFile.FieldType.object "java/lang/String"))).before args0 about1 = true := code_word (m := ⟨12, 3⟩) (meth := k12m3) (c := k12c3) (by decide +kernel) rfl rfl rfl (by decide +kernel)
set_option maxRecDepth 65536 in
theorem w_c13 : (Jvm.Cond.code ({ cls := "java/lang/StringLatin1", name := "canEncode", desc := "(C)Z" } : Jvm.MethodName) jdk_43_method_3_code (1 : Nat) (Option.some Jvm.ClassFile.FieldType.boolean)).before args0 about1 = true := code_word (m := ⟨14, 1⟩) (meth := k14m1) (c := k14c1) (by decide +kernel) rfl rfl rfl (by decide +kernel)
set_option maxRecDepth 65536 in
theorem w_c14 : (Jvm.Cond.code ({ cls := "java/lang/StringLatin1", name := "toBytes", desc := "(C)[B" } : Jvm.MethodName) jdk_43_method_46_code (1 : Nat) (Option.some (Jvm.ClassFile.FieldType.array Jvm.ClassFile.FieldType.byte))).before args0 about1 = true := code_word (m := ⟨14, 3⟩) (meth := k14m3) (c := k14c3) (by decide +kernel) rfl rfl rfl (by decide +kernel)
set_option maxRecDepth 65536 in
theorem w_c15 : (Jvm.Cond.code ({ cls := "java/lang/String", name := "<init>", desc := "([BB)V" } : Jvm.MethodName) jdk_42_method_151_code (3 : Nat) (Option.none : Option Jvm.ClassFile.FieldType)).before args0 about1 = true := code_word (m := ⟨12, 5⟩) (meth := k12m5) (c := k12c5) (by decide +kernel) rfl rfl rfl (by decide +kernel)
set_option maxRecDepth 65536 in
theorem w_c16 : (Jvm.Cond.code ({ cls := "com/example/berth/berth/engine/Group", name := "id", desc := "()Ljava/lang/String;" } : Jvm.MethodName) prog_25_method_6_code (1 : Nat) (Option.some (Jvm.ClassFile.FieldType.object "java/lang/String"))).before args0 about1 = true := code_word (m := ⟨3, 2⟩) (meth := k3m2) (c := k3c2) (by decide +kernel) rfl rfl rfl (by decide +kernel)
set_option maxRecDepth 65536 in
theorem w_c17 : (Jvm.Cond.code ({ cls := "java/lang/StringUTF16", name := "compress", desc := "([CII)[B" } : Jvm.MethodName) jdk_52_method_16_code (6 : Nat) (Option.some (Jvm.ClassFile.FieldType.array Jvm.ClassFile.FieldType.byte))).before args0 about1 = true := code_word (m := ⟨17, 2⟩) (meth := k17m2) (c := k17c2) (by decide +kernel) rfl rfl rfl (by decide +kernel)
set_option maxRecDepth 65536 in
theorem w_c18 : (Jvm.Cond.code ({ cls := "java/lang/StringUTF16", name := "compress", desc := "([CI[BII)I" } : Jvm.MethodName) jdk_52_method_21_code (7 : Nat) (Option.some Jvm.ClassFile.FieldType.int)).before args0 about1 = true := code_word (m := ⟨17, 3⟩) (meth := k17m3) (c := k17c3) (by decide +kernel) rfl rfl rfl (by decide +kernel)
set_option maxRecDepth 65536 in
theorem w_c19 : (Jvm.Cond.code ({ cls := "java/lang/StringUTF16", name := "coderFromArrayLen", desc := "([BI)B" } : Jvm.MethodName) jdk_52_method_15_code (2 : Nat) (Option.some Jvm.ClassFile.FieldType.byte)).before args0 about1 = true := code_word (m := ⟨17, 1⟩) (meth := k17m1) (c := k17c1) (by decide +kernel) rfl rfl rfl (by decide +kernel)
def codes1 : List Jvm.Cond := [Jvm.Cond.code x code maxLocals ret, Jvm.Cond.code ({ cls := "com/example/berth/berth/engine/GroupEqualsPinLaw", name := "kindOf", desc := "(I)Lcom/example/berth/berth/engine/GroupKind;" } : Jvm.MethodName) method_2_code (1 : Nat) (Option.some (Jvm.ClassFile.FieldType.object "com/example/berth/berth/engine/GroupKind")), Jvm.Cond.code ({ cls := "com/example/berth/berth/engine/GroupEqualsPinLaw", name := "idOf", desc := "(ICC)Ljava/lang/String;" } : Jvm.MethodName) method_3_code (4 : Nat) (Option.some (Jvm.ClassFile.FieldType.object "java/lang/String")), Jvm.Cond.code ({ cls := "java/lang/String", name := "<init>", desc := "([C)V" } : Jvm.MethodName) jdk_42_method_3_code (2 : Nat) (Option.none : Option Jvm.ClassFile.FieldType), Jvm.Cond.code ({ cls := "java/lang/String", name := "<init>", desc := "([CIILjava/lang/Void;)V" } : Jvm.MethodName) jdk_42_method_149_code (6 : Nat) (Option.none : Option Jvm.ClassFile.FieldType), Jvm.Cond.code ({ cls := "java/lang/Object", name := "<init>", desc := "()V" } : Jvm.MethodName) object_method_1_code (1 : Nat) (Option.none : Option Jvm.ClassFile.FieldType), Jvm.Cond.code ({ cls := "com/example/berth/berth/engine/Group", name := "<init>", desc := "(Lcom/example/berth/berth/engine/GroupKind;Ljava/lang/String;)V" } : Jvm.MethodName) prog_25_method_1_code (3 : Nat) (Option.none : Option Jvm.ClassFile.FieldType), Jvm.Cond.code ({ cls := "java/lang/Record", name := "<init>", desc := "()V" } : Jvm.MethodName) jdk_30_method_1_code (1 : Nat) (Option.none : Option Jvm.ClassFile.FieldType), Jvm.Cond.code ({ cls := "java/util/Objects", name := "requireNonNull", desc := "(Ljava/lang/Object;Ljava/lang/String;)Ljava/lang/Object;" } : Jvm.MethodName) jdk_31_method_11_code (2 : Nat) (Option.some (Jvm.ClassFile.FieldType.object "java/lang/Object")), Jvm.Cond.code ({ cls := "com/example/berth/berth/engine/Group", name := "equals", desc := "(Ljava/lang/Object;)Z" } : Jvm.MethodName) prog_25_method_2_code (3 : Nat) (Option.some Jvm.ClassFile.FieldType.boolean), Jvm.Cond.code ({ cls := "java/lang/String", name := "equals", desc := "(Ljava/lang/Object;)Z" } : Jvm.MethodName) jdk_42_method_66_code (3 : Nat) (Option.some Jvm.ClassFile.FieldType.boolean), Jvm.Cond.code ({ cls := "java/lang/StringLatin1", name := "equals", desc := "([B[B)Z" } : Jvm.MethodName) jdk_43_method_13_code (3 : Nat) (Option.some Jvm.ClassFile.FieldType.boolean), Jvm.Cond.code ({ cls := "java/lang/String", name := "valueOf", desc := "(C)Ljava/lang/String;" } : Jvm.MethodName) jdk_42_method_139_code (1 : Nat) (Option.some (Jvm.ClassFile.FieldType.object "java/lang/String")), Jvm.Cond.code ({ cls := "java/lang/StringLatin1", name := "canEncode", desc := "(C)Z" } : Jvm.MethodName) jdk_43_method_3_code (1 : Nat) (Option.some Jvm.ClassFile.FieldType.boolean), Jvm.Cond.code ({ cls := "java/lang/StringLatin1", name := "toBytes", desc := "(C)[B" } : Jvm.MethodName) jdk_43_method_46_code (1 : Nat) (Option.some (Jvm.ClassFile.FieldType.array Jvm.ClassFile.FieldType.byte)), Jvm.Cond.code ({ cls := "java/lang/String", name := "<init>", desc := "([BB)V" } : Jvm.MethodName) jdk_42_method_151_code (3 : Nat) (Option.none : Option Jvm.ClassFile.FieldType), Jvm.Cond.code ({ cls := "com/example/berth/berth/engine/Group", name := "id", desc := "()Ljava/lang/String;" } : Jvm.MethodName) prog_25_method_6_code (1 : Nat) (Option.some (Jvm.ClassFile.FieldType.object "java/lang/String")), Jvm.Cond.code ({ cls := "java/lang/StringUTF16", name := "compress", desc := "([CII)[B" } : Jvm.MethodName) jdk_52_method_16_code (6 : Nat) (Option.some (Jvm.ClassFile.FieldType.array Jvm.ClassFile.FieldType.byte)), Jvm.Cond.code ({ cls := "java/lang/StringUTF16", name := "compress", desc := "([CI[BII)I" } : Jvm.MethodName) jdk_52_method_21_code (7 : Nat) (Option.some Jvm.ClassFile.FieldType.int), Jvm.Cond.code ({ cls := "java/lang/StringUTF16", name := "coderFromArrayLen", desc := "([BI)B" } : Jvm.MethodName) jdk_52_method_15_code (2 : Nat) (Option.some Jvm.ClassFile.FieldType.byte)]
set_option maxRecDepth 65536 in
theorem codes_eq : words1.filter isCode = codes1 := rfl
theorem w_codes : ∀ c ∈ words1.filter isCode, c.before args0 about1 = true := by
  rw [codes_eq]
  intro c hc
  simp only [codes1, List.mem_cons, List.not_mem_nil, or_false] at hc
  rcases hc with rfl | rfl | rfl | rfl | rfl | rfl | rfl | rfl | rfl | rfl | rfl | rfl | rfl | rfl | rfl | rfl | rfl | rfl | rfl | rfl
  · exact w_c0
  · exact w_c1
  · exact w_c2
  · exact w_c3
  · exact w_c4
  · exact w_c5
  · exact w_c6
  · exact w_c7
  · exact w_c8
  · exact w_c9
  · exact w_c10
  · exact w_c11
  · exact w_c12
  · exact w_c13
  · exact w_c14
  · exact w_c15
  · exact w_c16
  · exact w_c17
  · exact w_c18
  · exact w_c19
set_option maxRecDepth 65536 in
theorem w_t1 : (words1.take 24).all (fun c => isCode c || c.before args0 about1) = true := by decide +kernel
set_option maxRecDepth 65536 in
theorem w_t2 : ((words1.drop 24).take 24).all (fun c => isCode c || c.before args0 about1) = true := by decide +kernel
set_option maxRecDepth 65536 in
theorem w_t3 : (((words1.drop 24).drop 24).take 24).all (fun c => isCode c || c.before args0 about1) = true := by decide +kernel
set_option maxRecDepth 65536 in
theorem w_t4 : ((((words1.drop 24).drop 24).drop 24).take 24).all (fun c => isCode c || c.before args0 about1) = true := by decide +kernel
set_option maxRecDepth 65536 in
theorem w_t5 : ((((words1.drop 24).drop 24).drop 24).drop 24).all (fun c => isCode c || c.before args0 about1) = true := by decide +kernel
theorem w_tables : (allAtoms (Jvm.Cond.code x code maxLocals ret :: tables_1)).before args0 about1 = true := by
  rw [allAtoms_all]
  show words1.all (fun c => c.before args0 about1) = true
  refine all_split ?_ w_codes
  rw [← List.take_append_drop 24 words1, List.all_append, w_t1, ← List.take_append_drop 24 (words1.drop 24), List.all_append, w_t2, ← List.take_append_drop 24 ((words1.drop 24).drop 24), List.all_append, w_t3, ← List.take_append_drop 24 (((words1.drop 24).drop 24).drop 24), List.all_append, w_t4, w_t5]
  rfl
set_option maxRecDepth 65536 in
theorem w_rest : rest_1_c.before args0 about1 = true := by decide +kernel
set_option maxRecDepth 65536 in
theorem w_case : (Jvm.Cond.and given_1 narrow_1).before args0 about1 = true := by decide +kernel
set_option maxRecDepth 65536 in
theorem w_consts : constsHeld consts_1 about1 := Jvm.Lit.constsHeldB_iff.mp (by decide +kernel)
theorem w_applies : (headSpec (Jvm.Cond.code x code maxLocals ret :: tables_1) room_1).applies x e0.platform about1 = true :=
  (Spec.applies_iff w_frames).mpr ⟨w_running, w_runnable, w_alone, w_named, w_hears, w_ripe, w_room, w_tables⟩
theorem atStart : AtStart classFile x code maxLocals ret World_1 tables_1 room_1 Calls_1 rest_1 Pre_1 launch0 p0 e0 about1 theMethod args0 below0 :=
  ⟨lists_1, trivial, launch0.admits_env _ _ _, launch0.least_env, fairChoices_fair.cas, fairChoices_fair.clock, w_frames, w_args, w_heap, w_applies, ⟨w_consts, trivial⟩, w_rest, w_case⟩
end start1
theorem witness_1 : WitnessClaimed_1 := ⟨start1.p0, start1.e0, start1.about1, start1.theMethod, start1.args0, start1.below0, start1.atStart⟩
end Jvm.Pilot.@@N@@
