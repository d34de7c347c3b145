import JvmDerived
import JvmDerived.Pilot.@@N@@Statement
import JvmDerived.Pilot.@@N@@Code
set_option linter.unusedVariables false
set_option linter.unusedSimpArgs false
/- laws to paste: Road.backV, Road.eqW, Road.codOf (cut by pick.py; bodies as the Statement names them) -/
namespace Jvm.Pilot.@@N@@
namespace StrChars
open Jvm Sem ClassFile Op Lib Jvm.Stand Jvm.Free.XT Jvm.Free.ALB Jvm.Free.JM Jvm.Free
open Jvm.Lib.Cold (StaticIs)
/-- a char array whose places are chars -/
def Ch (a : Addr) (A : Cell) (U : State) : Prop := Arr .char a A U ∧ Typed .char A
theorem Ch.mv {a : Addr} {A : Cell} {U U' : State} (h : Ch a A U) (hal : U.vm.Alike U'.vm) (hh : U'.heap = U.heap) : Ch a A U' := ⟨h.1.mv hal hh, h.2⟩
theorem Ch.keep {a : Addr} {A : Cell} {U U' : State} (h : Ch a A U) (hal : U.vm.Alike U'.vm) (hk : U'.heap[a]? = some A) : Ch a A U' := ⟨h.1.keep hal hk, h.2⟩
/-- what place i of a char[]'s cell holds -/
def cv (A : Cell) (i : Nat) : Int32 := match A.slots[i]? with | some (.int x) => x | _ => 0
theorem Ch.get {a : Addr} {A : Cell} {U : State} (h : Ch a A U) {i : Nat} (hi : i < A.slots.size) : A.slots[i]? = some (.int (cv A i)) := by
  have e := Array.getElem?_eq_getElem hi
  have f := h.2 i _ e
  unfold cv; rw [e]
  generalize A.slots[i] = v at f
  cases v <;> simp [fits] at f ⊢
/-- the byte that i2b leaves of a char -/
def lo8 (x : Int32) : Int32 := x.toInt8.toInt32
theorem fits_lo8 (y : Int32) : fits .byte (.int (lo8 y)) = true := by
  have h1 := y.toInt8.le_toInt
  have h2 := y.toInt8.toInt_lt
  simp only [lo8, fits, Bool.and_eq_true, decide_eq_true_eq, Int32.le_iff_toInt_le, Int8.toInt_toInt32, show (-128 : Int32).toInt = -128 from by decide, show (127 : Int32).toInt = 127 from by decide]
  omega
/-- A' is A but that each place j of lo .. hi - 1 holds f j -/
def Laid (A A' : Cell) (lo hi : Nat) (f : Nat → Value) : Prop := A'.cls = A.cls ∧ A'.vm = A.vm ∧ A'.slots.size = A.slots.size ∧ ∀ i, A'.slots[i]? = if lo ≤ i ∧ i < hi then some (f i) else A.slots[i]?
theorem Laid.zero (A : Cell) (lo : Nat) (f : Nat → Value) : Laid A A lo (lo + 0) f := ⟨rfl, rfl, rfl, fun i => by rw [if_neg (by omega)]⟩
theorem Laid.step {A Ak : Cell} {lo k : Nat} {f : Nat → Value} {v : Value} (h : Laid A Ak lo k f) (hlo : lo ≤ k) (hk : k < Ak.slots.size) (hv : v = f k) : Laid A (Ak.setSlot k v) lo (k + 1) f := by
  refine ⟨h.1, h.2.1, by simpa [Cell.setSlot] using h.2.2.1, fun i => ?_⟩
  by_cases e : k = i
  · subst e; rw [Cell.slots_setSlot_self v hk, if_pos (by omega), hv]
  · rw [Cell.slots_setSlot_ne v e, h.2.2.2 i]
    by_cases q : lo ≤ i ∧ i < k
    · rw [if_pos q, if_pos (by omega)]
    · rw [if_neg q, if_neg (by omega)]
def U16 : String := "java/lang/StringUTF16"
namespace Cmp5
def yN : MethodName := ⟨"java/lang/StringUTF16", "compress", "([CI[BII)I"⟩
abbrev yB : ByteArray := jdk_52_method_21_code
theorem d0 : decode yB 0 = .ok (.iconst 0, 1) := by decide +kernel
theorem d1 : decode yB 1 = .ok (.istore 5, 2) := by decide +kernel
theorem d3 : decode yB 3 = .ok (.iload 5, 2) := by decide +kernel
theorem d5 : decode yB 5 = .ok (.iload 4, 2) := by decide +kernel
theorem d7 : decode yB 7 = .ok (.if_icmp (.ge) 37, 3) := by decide +kernel
theorem d10 : decode yB 10 = .ok (.aload_n 0, 1) := by decide +kernel
theorem d11 : decode yB 11 = .ok (.iload_n 1, 1) := by decide +kernel
theorem d12 : decode yB 12 = .ok (.caload, 1) := by decide +kernel
theorem d13 : decode yB 13 = .ok (.istore 6, 2) := by decide +kernel
theorem d15 : decode yB 15 = .ok (.iload 6, 2) := by decide +kernel
theorem d17 : decode yB 17 = .ok (.sipush 255, 3) := by decide +kernel
theorem d20 : decode yB 20 = .ok (.if_icmp (.le) 6, 3) := by decide +kernel
theorem d26 : decode yB 26 = .ok (.aload_n 2, 1) := by decide +kernel
theorem d27 : decode yB 27 = .ok (.iload_n 3, 1) := by decide +kernel
theorem d28 : decode yB 28 = .ok (.iload 6, 2) := by decide +kernel
theorem d30 : decode yB 30 = .ok (.i2b, 1) := by decide +kernel
theorem d31 : decode yB 31 = .ok (.bastore, 1) := by decide +kernel
theorem d32 : decode yB 32 = .ok (.iinc 1 1, 3) := by decide +kernel
theorem d35 : decode yB 35 = .ok (.iinc 3 1, 3) := by decide +kernel
theorem d38 : decode yB 38 = .ok (.iinc 5 1, 3) := by decide +kernel
theorem d41 : decode yB 41 = .ok (.goto (-38), 3) := by decide +kernel
theorem d44 : decode yB 44 = .ok (.iload 4, 2) := by decide +kernel
theorem d46 : decode yB 46 = .ok (.ireturn, 1) := by decide +kernel
def site : List Cond := []
def tab : Cond := tabOf yN yB 7 (some .int) site
def P (b : Addr) (A : Cell) (d : Addr) (B : Cell) (o q len : Nat) (args : Array Value) (s : State) : Prop := args = #[.ref b, .int (Int32.ofNat o), .ref d, .int (Int32.ofNat q), .int (Int32.ofNat len)] ∧ Ch b A s ∧ Arr .byte d B s ∧ b ≠ d ∧ o + len ≤ A.slots.size ∧ q + len ≤ B.slots.size ∧ ∀ i, i < len → ¬ 255 < cv A (o + i)
def E (b : Addr) (A : Cell) (d : Addr) (B : Cell) (o q len : Nat) (r : Option Value) (s u : State) : Prop := r = some (.int (Int32.ofNat len)) ∧ ∃ B', Put d B' s u ∧ Laid B B' q (q + len) (fun j => Value.int (lo8 (cv A (o + (j - q)))))
/-- no char of the range above 255: len; the places written hold each char's low byte -/
theorem law (l : Launch) (b : Addr) (A : Cell) (d : Addr) (B : Cell) (o q len : Nat) : Law l yN 5 5 0 0 yB 7 (some .int) site (P b A d B o q len) (E b A d B o q len) (copyLocs d q len) 0 0 := by
  refine Law.of_walk (plainFor_of_name (by decide +kernel)) (by decide +kernel) (by decide +kernel) (by decide) (fun _ _ h => by rw [h.1]; rfl) (fun _ U U' hal hh h => ⟨h.1, h.2.1.mv hal hh, h.2.2.1.mv hal hh, h.2.2.2⟩) (fun r U U' V V' h1 hal h2 h => ⟨h.1, h.2.elim fun B' q => ⟨B', q.1.mv h1 h2, q.2⟩⟩) ?_
  intro p e s m args below meth c s₁ X0 hexec hbytes hml hret hlk hnm hown hh0 W hP
  obtain ⟨rfl, hA, hB, hne, l1, l2, hp⟩ := hP
  have c1 : Steps p.tables e below (s₁.setTop (entryFrame m #[.ref b, .int (Int32.ofNat o), .ref d, .int (Int32.ofNat q), .int (Int32.ofNat len)] 7)) (s₁.setTop (mkF m 0 #[.val (.ref b), .val (.int (Int32.ofNat o)), .val (.ref d), .val (.int (Int32.ofNat q)), .val (.int (Int32.ofNat len)), .unset, .unset] [])) := entry rfl
  have hA0 := hA.1.mv X0.warmed.alike hh0
  have hB0 := hB.mv X0.warmed.alike hh0
  have a31 := hA.1.2.2.2
  have c2 : Steps p.tables e below (s₁.setTop (entryFrame m #[.ref b, .int (Int32.ofNat o), .ref d, .int (Int32.ofNat q), .int (Int32.ofNat len)] 7)) (s₁.setTop (mkF m 3 #[.val (.ref b), .val (.int (Int32.ofNat o)), .val (.ref d), .val (.int (Int32.ofNat q)), .val (.int (Int32.ofNat len)), .val (.int 0), .unset] [])) := c1.trans (by
    refine iconstV X0.here hexec rfl 0 (hb hbytes d0) (by decide) ?_
    refine XS.istore X0.here hexec rfl (hb hbytes d1) rfl rfl ?_
    exact Steps.refl _)
  have loop : ∀ (r i : Nat), i + r = len → ∀ (z : Slot), (z = .unset ∨ ∃ w, z = .val w ∧ w.category = 1) → ∀ (Tl : State) (Bk : Cell), Stand p l e { frames := 0, locals := 0, cells := 0, slots := 0 } s m #[.ref b, .int (Int32.ofNat o), .ref d, .int (Int32.ofNat q), .int (Int32.ofNat len)] below meth c Tl ([] ++ copyLocs d q i) 0 0 → Put d Bk s₁ Tl → Laid B Bk q (q + i) (fun j => Value.int (lo8 (cv A (o + (j - q))))) →
      Steps p.tables e below (s₁.setTop (entryFrame m #[.ref b, .int (Int32.ofNat o), .ref d, .int (Int32.ofNat q), .int (Int32.ofNat len)] 7)) (Tl.setTop (mkF m 3 #[.val (.ref b), .val (.int (Int32.ofNat (o + i))), .val (.ref d), .val (.int (Int32.ofNat (q + i))), .val (.int (Int32.ofNat len)), .val (.int (Int32.ofNat i)), z] [])) → ∃ (T' : State) (B' : Cell) (z' : Slot), Stand p l e { frames := 0, locals := 0, cells := 0, slots := 0 } s m #[.ref b, .int (Int32.ofNat o), .ref d, .int (Int32.ofNat q), .int (Int32.ofNat len)] below meth c T' ([] ++ copyLocs d q len) 0 0 ∧ Put d B' s₁ T' ∧ Laid B B' q (q + len) (fun j => Value.int (lo8 (cv A (o + (j - q))))) ∧
      Steps p.tables e below (s₁.setTop (entryFrame m #[.ref b, .int (Int32.ofNat o), .ref d, .int (Int32.ofNat q), .int (Int32.ofNat len)] 7)) (T'.setTop (mkF m 3 #[.val (.ref b), .val (.int (Int32.ofNat (o + len))), .val (.ref d), .val (.int (Int32.ofNat (q + len))), .val (.int (Int32.ofNat len)), .val (.int (Int32.ofNat len)), z'] [])) := by
    intro r
    induction r with
    | zero =>
      intro i hi z hz Tl Bk Xl pl fl cl
      have hil : i = len := by omega
      rw [hil] at Xl fl cl
      exact ⟨Tl, Bk, z, Xl, pl, fl, cl⟩
    | succ r ih =>
      intro i hi z hz Tl Bk Xl pl fl cl
      have all := X0.warmed.alike.symm.trans Xl.warmed.alike
      have hAl := hA0.keep all (pl.other hne hA0.1)
      have hBk := hB0.like all pl.1 fl.1 fl.2.1 fl.2.2.1
      have hlt : q + i < Bk.slots.size := by rw [fl.2.2.1]; omega
      have c3 : Steps p.tables e below (s₁.setTop (entryFrame m #[.ref b, .int (Int32.ofNat o), .ref d, .int (Int32.ofNat q), .int (Int32.ofNat len)] 7)) (Tl.setTop (mkF m 12 #[.val (.ref b), .val (.int (Int32.ofNat (o + i))), .val (.ref d), .val (.int (Int32.ofNat (q + i))), .val (.int (Int32.ofNat len)), .val (.int (Int32.ofNat i)), z] [.int (Int32.ofNat (o + i)), .ref b])) := cl.trans (by
        refine XS.iload Xl.here hexec rfl (hb hbytes d3) rfl ?_
        refine XS.iload Xl.here hexec rfl (hb hbytes d5) rfl ?_
        refine XS.icmpNo Xl.here hexec rfl (hb hbytes d7) rfl (ii_ge_f (lt32 (by omega) (by omega))) ?_
        refine XS.aloadN Xl.here hexec rfl (hb hbytes d10) rfl rfl ?_
        refine XS.iloadN Xl.here hexec rfl (hb hbytes d11) rfl ?_
        exact Steps.refl _)
      have c4 : Steps p.tables e below (s₁.setTop (entryFrame m #[.ref b, .int (Int32.ofNat o), .ref d, .int (Int32.ofNat q), .int (Int32.ofNat len)] 7)) (Tl.setTop (mkF m 13 #[.val (.ref b), .val (.int (Int32.ofNat (o + i))), .val (.ref d), .val (.int (Int32.ofNat (q + i))), .val (.int (Int32.ofNat len)), .val (.int (Int32.ofNat i)), z] [.int (cv A (o + i))])) := c3.trans (by
        refine Xl.aget hexec hAl rfl (hA.get (i := o + i) (by omega)) rfl rfl (hb hbytes d12) ?_
        exact Steps.refl _)
      have c5 : Steps p.tables e below (s₁.setTop (entryFrame m #[.ref b, .int (Int32.ofNat o), .ref d, .int (Int32.ofNat q), .int (Int32.ofNat len)] 7)) (Tl.setTop (mkF m 15 #[.val (.ref b), .val (.int (Int32.ofNat (o + i))), .val (.ref d), .val (.int (Int32.ofNat (q + i))), .val (.int (Int32.ofNat len)), .val (.int (Int32.ofNat i)), .val (.int (cv A (o + i)))] [])) := c4.trans (by
        refine XS.istoreS Xl.here hexec rfl (hb hbytes d13) rfl rfl hz ?_
        exact Steps.refl _)
      have c6 : Steps p.tables e below (s₁.setTop (entryFrame m #[.ref b, .int (Int32.ofNat o), .ref d, .int (Int32.ofNat q), .int (Int32.ofNat len)] 7)) (Tl.setTop (mkF m 31 #[.val (.ref b), .val (.int (Int32.ofNat (o + i))), .val (.ref d), .val (.int (Int32.ofNat (q + i))), .val (.int (Int32.ofNat len)), .val (.int (Int32.ofNat i)), .val (.int (cv A (o + i)))] [.int (lo8 (cv A (o + i))), .int (Int32.ofNat (q + i)), .ref d])) := c5.trans (by
        refine XS.iload Xl.here hexec rfl (hb hbytes d15) rfl ?_
        refine sipushV Xl.here hexec rfl 255 (hb hbytes d17) (by decide) ?_
        refine XS.icmpYes Xl.here hexec rfl (pc0 := 20) rfl (hb hbytes d20) rfl (ii_le_t (hp i (by omega))) (by decide) rfl ?_
        refine XS.aloadN Xl.here hexec rfl (hb hbytes d26) rfl rfl ?_
        refine XS.iloadN Xl.here hexec rfl (hb hbytes d27) rfl ?_
        refine XS.iload Xl.here hexec rfl (hb hbytes d28) rfl ?_
        refine i2b Xl.here hexec rfl (hb hbytes d30) rfl ?_
        exact Steps.refl _)
      obtain ⟨T7, X7, p7, st7⟩ := Xl.aput hexec hBk rfl hlt rfl (fits_lo8 (cv A (o + i))) (g := (mkF m 31 #[.val (.ref b), .val (.int (Int32.ofNat (o + i))), .val (.ref d), .val (.int (Int32.ofNat (q + i))), .val (.int (Int32.ofNat len)), .val (.int (Int32.ofNat i)), .val (.int (cv A (o + i)))] [.int (lo8 (cv A (o + i))), .int (Int32.ofNat (q + i)), .ref d])) rfl (rest := []) rfl (hb hbytes d31)
      have c8 : Steps p.tables e below (s₁.setTop (entryFrame m #[.ref b, .int (Int32.ofNat o), .ref d, .int (Int32.ofNat q), .int (Int32.ofNat len)] 7)) (T7.setTop (mkF m 32 #[.val (.ref b), .val (.int (Int32.ofNat (o + i))), .val (.ref d), .val (.int (Int32.ofNat (q + i))), .val (.int (Int32.ofNat len)), .val (.int (Int32.ofNat i)), .val (.int (cv A (o + i)))] [])) := c6.trans (st7 _ (Steps.refl _))
      have c9 : Steps p.tables e below (s₁.setTop (entryFrame m #[.ref b, .int (Int32.ofNat o), .ref d, .int (Int32.ofNat q), .int (Int32.ofNat len)] 7)) (T7.setTop (mkF m 3 #[.val (.ref b), .val (.int (Int32.ofNat (o + i) + 1)), .val (.ref d), .val (.int (Int32.ofNat (q + i) + 1)), .val (.int (Int32.ofNat len)), .val (.int (Int32.ofNat i + 1)), .val (.int (cv A (o + i)))] [])) := c8.trans (by
        refine iincV X7.here hexec rfl 1 (hb hbytes d32) (by decide) rfl rfl ?_
        refine iincV X7.here hexec rfl 1 (hb hbytes d35) (by decide) rfl rfl ?_
        refine iincV X7.here hexec rfl 1 (hb hbytes d38) (by decide) rfl rfl ?_
        refine XS.goto X7.here hexec rfl (pc0 := 41) rfl (hb hbytes d41) (by decide) rfl ?_
        exact Steps.refl _)
      have c10 : Steps p.tables e below (s₁.setTop (entryFrame m #[.ref b, .int (Int32.ofNat o), .ref d, .int (Int32.ofNat q), .int (Int32.ofNat len)] 7)) (T7.setTop (mkF m 3 #[.val (.ref b), .val (.int (Int32.ofNat (o + (i + 1)))), .val (.ref d), .val (.int (Int32.ofNat (q + (i + 1)))), .val (.int (Int32.ofNat len)), .val (.int (Int32.ofNat (i + 1))), .val (.int (cv A (o + i)))] [])) := by
        have := c9
        rw [succ32, succ32, succ32] at this
        exact this
      exact ih (i + 1) (by omega) _ (Or.inr ⟨_, rfl, rfl⟩) T7 _ (by rw [copyLocs_step, ← List.append_assoc]; exact X7) (pl.trans p7) (fl.step (by omega) hlt (by simp)) c10
  obtain ⟨T9, B9, z9, X9, p9, f9, g9⟩ := loop len 0 (by omega) .unset (Or.inl rfl) s₁ B (by simpa [copyLocs] using X0) ⟨hB0.1, fun _ _ => rfl, rfl⟩ (Laid.zero _ _ _) c2
  have c11 : Steps p.tables e below (s₁.setTop (entryFrame m #[.ref b, .int (Int32.ofNat o), .ref d, .int (Int32.ofNat q), .int (Int32.ofNat len)] 7)) (T9.setTop (mkF m 46 #[.val (.ref b), .val (.int (Int32.ofNat (o + len))), .val (.ref d), .val (.int (Int32.ofNat (q + len))), .val (.int (Int32.ofNat len)), .val (.int (Int32.ofNat len)), z9] [.int (Int32.ofNat len)])) := g9.trans (by
    refine XS.iload X9.here hexec rfl (hb hbytes d3) rfl ?_
    refine XS.iload X9.here hexec rfl (hb hbytes d5) rfl ?_
    refine XS.icmpYes X9.here hexec rfl (pc0 := 7) rfl (hb hbytes d7) rfl (ii_ge_t (nlt32 (by omega) (Nat.le_refl _))) (by decide) rfl ?_
    refine XS.iload X9.here hexec rfl (hb hbytes d44) rfl ?_
    exact Steps.refl _)
  exact ⟨T9, some (.int (Int32.ofNat len)), _, _, _, X9, by simp, rfl, rfl, (fun h => by cases h), ⟨rfl, B9, p9.from hh0, f9⟩, fun fs hl => c11.trans (X9.ireturnOut hexec hret rfl (Or.inl rfl) (hb hbytes d46) hl)⟩
end Cmp5
namespace Cmp3
def yN : MethodName := ⟨"java/lang/StringUTF16", "compress", "([CII)[B"⟩
abbrev yB : ByteArray := jdk_52_method_16_code
theorem d0 : decode yB 0 = .ok (.iload_n 2, 1) := by decide +kernel
theorem d1 : decode yB 1 = .ok (.newarray .byte, 2) := by decide +kernel
theorem d3 : decode yB 3 = .ok (.astore_n 3, 1) := by decide +kernel
theorem d4 : decode yB 4 = .ok (.aload_n 0, 1) := by decide +kernel
theorem d5 : decode yB 5 = .ok (.iload_n 1, 1) := by decide +kernel
theorem d6 : decode yB 6 = .ok (.aload_n 3, 1) := by decide +kernel
theorem d7 : decode yB 7 = .ok (.iconst 0, 1) := by decide +kernel
theorem d8 : decode yB 8 = .ok (.iload_n 2, 1) := by decide +kernel
theorem d9 : decode yB 9 = .ok (.invokestatic 115, 3) := by decide +kernel
theorem d12 : decode yB 12 = .ok (.istore 4, 2) := by decide +kernel
theorem d14 : decode yB 14 = .ok (.iload 4, 2) := by decide +kernel
theorem d16 : decode yB 16 = .ok (.iload_n 2, 1) := by decide +kernel
theorem d17 : decode yB 17 = .ok (.if_icmp (.eq) 40, 3) := by decide +kernel
theorem d57 : decode yB 57 = .ok (.aload_n 3, 1) := by decide +kernel
theorem d58 : decode yB 58 = .ok (.areturn, 1) := by decide +kernel
def site : List Cond := [.arrayClass .byte, Cmp5.tab] ++ staticW U16 115 Cmp5.yN
def tab : Cond := tabOf yN yB 6 (some (.array .byte)) site
def P (b : Addr) (A : Cell) (o len : Nat) (args : Array Value) (s : State) : Prop := args = #[.ref b, .int (Int32.ofNat o), .int (Int32.ofNat len)] ∧ Ch b A s ∧ o + len ≤ A.slots.size ∧ len ≤ 536870912 ∧ ∀ i, i < len → ¬ 255 < cv A (o + i)
def E (b : Addr) (A : Cell) (o len : Nat) (r : Option Value) (s u : State) : Prop := NewArr .byte "[B" len (fun j => .int (lo8 (cv A (o + j)))) r s u ∧ u.heap.size = s.heap.size + 1
/-- no char of the range above 255: a new byte[] of their low bytes -/
theorem law (l : Launch) (b : Addr) (A : Cell) (o len : Nat) : Law l yN 3 3 1 18 yB 6 (some (.array .byte)) site (P b A o len) (E b A o len) [] 1 len := by
  refine Law.of_walk (plainFor_of_name (by decide +kernel)) (by decide +kernel) (by decide +kernel) (by decide) (fun _ _ h => by rw [h.1]; rfl) (fun _ U U' hal hh h => ⟨h.1, h.2.1.mv hal hh, h.2.2⟩) (fun r U U' V V' h1 hal h2 h => ⟨NewArr.mv r U U' V V' h1 hal h2 h.1, by rw [h1, h2]; exact h.2⟩) ?_
  intro p e s m args below meth c s₁ X0 hexec hbytes hml hret hlk hnm hown hh0 W hP
  obtain ⟨rfl, hA, l1, l2, hp⟩ := hP
  have a31 := hA.1.2.2.2
  have c1 : Steps p.tables e below (s₁.setTop (entryFrame m #[.ref b, .int (Int32.ofNat o), .int (Int32.ofNat len)] 6)) (s₁.setTop (mkF m 0 #[.val (.ref b), .val (.int (Int32.ofNat o)), .val (.int (Int32.ofNat len)), .unset, .unset, .unset] [])) := entry rfl
  have c2 : Steps p.tables e below (s₁.setTop (entryFrame m #[.ref b, .int (Int32.ofNat o), .int (Int32.ofNat len)] 6)) (s₁.setTop (mkF m 1 #[.val (.ref b), .val (.int (Int32.ofNat o)), .val (.int (Int32.ofNat len)), .unset, .unset, .unset] [.int (Int32.ofNat len)])) := c1.trans (by
    refine XS.iloadN X0.here hexec rfl (hb hbytes d0) rfl ?_
    exact Steps.refl _)
  obtain ⟨T3, B3, X3, ba3, bs3, bv3, bh3, bf3, st3⟩ := X0.anew hexec (atype := .byte) (wk W (.arrayClass .byte)) rfl (by show len * 1 ≤ _; omega) (by omega) (g := (mkF m 1 #[.val (.ref b), .val (.int (Int32.ofNat o)), .val (.int (Int32.ofNat len)), .unset, .unset, .unset] [.int (Int32.ofNat len)])) rfl (hb hbytes d1) (rest := []) rfl (Nat.le_refl _) (by show 0 + len ≤ len; omega)
  rw [hh0] at ba3 st3
  have kp3 : XT.Kept s T3 := (XT.Kept.of_eq hh0).push bh3
  have hA3 := hA.keep X3.warmed.alike (kp3 _ _ hA.1.1)
  have hne : b ≠ s.heap.size := hA.1.ne
  have c4 : Steps p.tables e below (s₁.setTop (entryFrame m #[.ref b, .int (Int32.ofNat o), .int (Int32.ofNat len)] 6)) (T3.setTop (mkF m 3 #[.val (.ref b), .val (.int (Int32.ofNat o)), .val (.int (Int32.ofNat len)), .unset, .unset, .unset] [.ref s.heap.size])) := c2.trans (st3 _ (Steps.refl _))
  have c5 : Steps p.tables e below (s₁.setTop (entryFrame m #[.ref b, .int (Int32.ofNat o), .int (Int32.ofNat len)] 6)) (T3.setTop (mkF m 9 #[.val (.ref b), .val (.int (Int32.ofNat o)), .val (.int (Int32.ofNat len)), .val (.ref s.heap.size), .unset, .unset] [.int (Int32.ofNat len), .int 0, .ref s.heap.size, .int (Int32.ofNat o), .ref b])) := c4.trans (by
    refine XS.astoreN X3.here hexec rfl (hb hbytes d3) rfl rfl rfl ?_
    refine XS.aloadN X3.here hexec rfl (hb hbytes d4) rfl rfl ?_
    refine XS.iloadN X3.here hexec rfl (hb hbytes d5) rfl ?_
    refine XS.aloadN X3.here hexec rfl (hb hbytes d6) rfl rfl ?_
    refine iconstV X3.here hexec rfl 0 (hb hbytes d7) (by decide) ?_
    refine XS.iloadN X3.here hexec rfl (hb hbytes d8) rfl ?_
    exact Steps.refl _)
  obtain ⟨v6, T6, X6, E6, g6⟩ := X3.callS hexec (Cmp5.law l b A s.heap.size B3 o 0 len) hown (wks W (staticW U16 115 Cmp5.yN)) (wk W Cmp5.tab) (W := 0) (Nat.le_of_ble_eq_true rfl) (Nat.le_of_ble_eq_true rfl) (Nat.le_refl _) (by show 0 + len + 0 ≤ len; omega) (g := (mkF m 9 #[.val (.ref b), .val (.int (Int32.ofNat o)), .val (.int (Int32.ofNat len)), .val (.ref s.heap.size), .unset, .unset] [.int (Int32.ofNat len), .int (Int32.ofNat 0), .ref s.heap.size, .int (Int32.ofNat o), .ref b])) rfl (by rw [hml]; rfl) c5 (argsL := [.ref b, .int (Int32.ofNat o), .ref s.heap.size, .int (Int32.ofNat 0), .int (Int32.ofNat len)]) (rest := []) rfl rfl (by show 2 * 0 + 0 ≤ _; decide) (hb hbytes d9) (⟨rfl, hA3, ba3, hne, l1, by rw [bs3]; simp, hp⟩)
  obtain ⟨rfl, B6, p6, f6⟩ := E6
  have c7 : Steps p.tables e below (s₁.setTop (entryFrame m #[.ref b, .int (Int32.ofNat o), .int (Int32.ofNat len)] 6)) (T6.setTop (mkF m 12 #[.val (.ref b), .val (.int (Int32.ofNat o)), .val (.int (Int32.ofNat len)), .val (.ref s.heap.size), .unset, .unset] [.int (Int32.ofNat len)])) := g6
  have c8 : Steps p.tables e below (s₁.setTop (entryFrame m #[.ref b, .int (Int32.ofNat o), .int (Int32.ofNat len)] 6)) (T6.setTop (mkF m 58 #[.val (.ref b), .val (.int (Int32.ofNat o)), .val (.int (Int32.ofNat len)), .val (.ref s.heap.size), .val (.int (Int32.ofNat len)), .unset] [.ref s.heap.size])) := c7.trans (by
    refine XS.istore X6.here hexec rfl (hb hbytes d12) rfl rfl ?_
    refine XS.iload X6.here hexec rfl (hb hbytes d14) rfl ?_
    refine XS.iloadN X6.here hexec rfl (hb hbytes d16) rfl ?_
    refine XS.icmpYes X6.here hexec rfl (pc0 := 17) rfl (hb hbytes d17) rfl (ii_eq_t rfl) (by decide) rfl ?_
    refine XS.aloadN X6.here hexec rfl (hb hbytes d57) rfl rfl ?_
    exact Steps.refl _)
  have X8 := X6.wide (L' := []) (cells' := 1) (slots' := len) (fun x hx hlt => by
    simp only [List.nil_append, copyLocs, List.mem_map, List.mem_range] at hx
    obtain ⟨i, -, rfl⟩ := hx
    exact absurd hlt (Nat.lt_irrefl _)) (Nat.le_refl _) (by omega)
  exact ⟨T6, some (.ref s.heap.size), _, _, _, X8, rfl, rfl, rfl, (fun h => by cases h), ⟨⟨rfl, B6, ba3.like (X3.warmed.alike.symm.trans X6.warmed.alike) p6.1 f6.1 f6.2.1 f6.2.2.1, f6.2.1.trans bv3, by rw [X6.warmed.alike.findClass, f6.1]; exact bf3, by rw [f6.2.2.1, bs3]; simp, fun j hj => by rw [f6.2.2.2 j, if_pos (by omega)]; rfl, kp3.put p6 (Nat.le_refl _)⟩, by rw [p6.2.2, bh3, hh0]; simp⟩, fun fs hl => c8.trans (X8.areturnOut hexec rfl hret rfl (hb hbytes d58) hl)⟩
end Cmp3
namespace CodL
def yN : MethodName := ⟨"java/lang/StringUTF16", "coderFromArrayLen", "([BI)B"⟩
abbrev yB : ByteArray := jdk_52_method_15_code
theorem d0 : decode yB 0 = .ok (.iload_n 1, 1) := by decide +kernel
theorem d1 : decode yB 1 = .ok (.aload_n 0, 1) := by decide +kernel
theorem d2 : decode yB 2 = .ok (.arraylength, 1) := by decide +kernel
theorem d3 : decode yB 3 = .ok (.isub, 1) := by decide +kernel
theorem d4 : decode yB 4 = .ok (.bipush 31, 2) := by decide +kernel
theorem d6 : decode yB 6 = .ok (.iushr, 1) := by decide +kernel
theorem d7 : decode yB 7 = .ok (.i2b, 1) := by decide +kernel
theorem d8 : decode yB 8 = .ok (.ireturn, 1) := by decide +kernel
def site : List Cond := []
def tab : Cond := tabOf yN yB 2 (some .byte) site
def P (d : Addr) (B : Cell) (args : Array Value) (s : State) : Prop := args = #[.ref d, .int (Int32.ofNat B.slots.size)] ∧ Arr .byte d B s
def E (r : Option Value) (s u : State) : Prop := XT.PureE (some (.int 0)) r s u
/-- an array as long as the number of chars: LATIN1 -/
theorem law (l : Launch) (d : Addr) (B : Cell) : Law l yN 2 2 0 0 yB 2 (some .byte) site (P d B) E [] 0 0 := by
  refine Law.of_walk (plainFor_of_name (by decide +kernel)) (by decide +kernel) (by decide +kernel) (by decide) (fun _ _ h => by rw [h.1]; rfl) (fun _ U U' hal hh h => ⟨h.1, h.2.mv hal hh⟩) (fun r U U' V V' h1 hal h2 h => XT.PureE.mv r U U' V V' h1 hal h2 h) ?_
  intro p e s m args below meth c s₁ X0 hexec hbytes hml hret hlk hnm hown hh0 W hP
  obtain ⟨rfl, hB⟩ := hP
  have hB0 := hB.mv X0.warmed.alike hh0
  have c1 : Steps p.tables e below (s₁.setTop (entryFrame m #[.ref d, .int (Int32.ofNat B.slots.size)] 2)) (s₁.setTop (mkF m 0 #[.val (.ref d), .val (.int (Int32.ofNat B.slots.size))] [])) := entry rfl
  have c2 : Steps p.tables e below (s₁.setTop (entryFrame m #[.ref d, .int (Int32.ofNat B.slots.size)] 2)) (s₁.setTop (mkF m 2 #[.val (.ref d), .val (.int (Int32.ofNat B.slots.size))] [.ref d, .int (Int32.ofNat B.slots.size)])) := c1.trans (by
    refine XS.iloadN X0.here hexec rfl (hb hbytes d0) rfl ?_
    refine XS.aloadN X0.here hexec rfl (hb hbytes d1) rfl rfl ?_
    exact Steps.refl _)
  have c3 : Steps p.tables e below (s₁.setTop (entryFrame m #[.ref d, .int (Int32.ofNat B.slots.size)] 2)) (s₁.setTop (mkF m 8 #[.val (.ref d), .val (.int (Int32.ofNat B.slots.size))] [.int (lo8 (ushr (Int32.ofNat B.slots.size - Int32.ofNat B.slots.size) 31))])) := c2.trans (by
    refine X0.alen hexec hB0 rfl rfl (hb hbytes d2) ?_
    refine XS.isub X0.here hexec rfl (hb hbytes d3) rfl ?_
    refine bipushV X0.here hexec rfl 31 (hb hbytes d4) (by decide) ?_
    refine iushr X0.here hexec rfl (hb hbytes d6) rfl ?_
    refine i2b X0.here hexec rfl (hb hbytes d7) rfl ?_
    exact Steps.refl _)
  have e0 : lo8 (ushr (Int32.ofNat B.slots.size - Int32.ofNat B.slots.size) 31) = 0 := by rw [Int32.sub_self]; decide
  rw [e0] at c3
  exact ⟨s₁, some (.int 0), _, _, _, X0, rfl, rfl, rfl, (fun h => by cases h), ⟨rfl, hh0⟩, fun fs hl => c3.trans (X0.ireturnOut hexec hret rfl (Or.inr (Or.inr (Or.inl rfl))) (hb hbytes d8) hl)⟩
end CodL
/-- the String at a is Latin-1 over a new byte[] (the heap's one new cell): the low bytes of the len chars of A from o on; every cell but a is kept -/
def Got (a : Addr) (D : Cell) (fV fC : Field) (A : Cell) (o len : Nat) (r : Option Value) (s u : State) : Prop := r = none ∧ ∃ D' V : Cell, Blank "java/lang/String" a D' u ∧ Same D D' [fV.slot, fC.slot] ∧ D'.slots[fV.slot]? = some (.ref s.heap.size) ∧ D'.slots[fC.slot]? = some (.int 0) ∧ Arr .byte s.heap.size V u ∧ V.vm = .none ∧ u.vm.findClass "[B" = some V.cls ∧ V.slots.size = len ∧ (∀ j, j < len → V.slots[j]? = some (.int (lo8 (cv A (o + j))))) ∧ (∀ (y : Addr) (c : Cell), y ≠ a → s.heap[y]? = some c → u.heap[y]? = some c) ∧ u.heap.size = s.heap.size + 1
theorem Got.mv {a : Addr} {D A : Cell} {fV fC : Field} {o len : Nat} : ∀ r (U U' V V' : State), U'.heap = U.heap → V.vm.Alike V'.vm → V'.heap = V.heap → Got a D fV fC A o len r U V → Got a D fV fC A o len r U' V' :=
  fun r U U' V V' h1 hal h2 ⟨e0, D', X, a1, a2, a3, a4, a5, a6, a7, a8, a9, a10, a11⟩ => ⟨e0, D', X, a1.mv hal h2, a2, by rw [h1]; exact a3, a4, by rw [h1]; exact a5.mv hal h2, a6, by rw [hal.findClass]; exact a7, a8, a9, by rw [h1, h2]; exact a10, by rw [h1, h2]; exact a11⟩
namespace New4
def yN : MethodName := ⟨"java/lang/String", "<init>", "([CIILjava/lang/Void;)V"⟩
abbrev yB : ByteArray := jdk_42_method_149_code
theorem d0 : decode yB 0 = .ok (.aload_n 0, 1) := by decide +kernel
theorem d1 : decode yB 1 = .ok (.invokespecial 1, 3) := by decide +kernel
theorem d4 : decode yB 4 = .ok (.iload_n 3, 1) := by decide +kernel
theorem d5 : decode yB 5 = .ok (.ifCond (.ne) 22, 3) := by decide +kernel
theorem d27 : decode yB 27 = .ok (.getstatic 38, 3) := by decide +kernel
theorem d30 : decode yB 30 = .ok (.ifCond (.eq) 28, 3) := by decide +kernel
theorem d33 : decode yB 33 = .ok (.aload_n 1, 1) := by decide +kernel
theorem d34 : decode yB 34 = .ok (.iload_n 2, 1) := by decide +kernel
theorem d35 : decode yB 35 = .ok (.iload_n 3, 1) := by decide +kernel
theorem d36 : decode yB 36 = .ok (.invokestatic 177, 3) := by decide +kernel
theorem d39 : decode yB 39 = .ok (.astore 5, 2) := by decide +kernel
theorem d41 : decode yB 41 = .ok (.aload_n 0, 1) := by decide +kernel
theorem d42 : decode yB 42 = .ok (.aload 5, 2) := by decide +kernel
theorem d44 : decode yB 44 = .ok (.iload_n 3, 1) := by decide +kernel
theorem d45 : decode yB 45 = .ok (.invokestatic 47, 3) := by decide +kernel
theorem d48 : decode yB 48 = .ok (.putfield 15, 3) := by decide +kernel
theorem d51 : decode yB 51 = .ok (.aload_n 0, 1) := by decide +kernel
theorem d52 : decode yB 52 = .ok (.aload 5, 2) := by decide +kernel
theorem d54 : decode yB 54 = .ok (.putfield 9, 3) := by decide +kernel
theorem d57 : decode yB 57 = .ok (.return_, 1) := by decide +kernel
def site : List Cond := [.fieldLink "java/lang/String" 38 "java/lang/String" "COMPACT_STRINGS" "Z", Cmp3.tab, CodL.tab, .laysFinal "java/lang/String" "java/lang/String" "value" "[B", .fieldLink "java/lang/String" 9 "java/lang/String" "value" "[B", .laysFinal "java/lang/String" "java/lang/String" "coder" "B", .fieldLink "java/lang/String" 15 "java/lang/String" "coder" "B"] ++ objW "java/lang/String" 1 ++ staticW "java/lang/String" 177 Cmp3.yN ++ staticW "java/lang/String" 47 CodL.yN
def tab : Cond := tabOf yN yB 6 none site
def P (a : Addr) (D : Cell) (fV fC : Field) (b : Addr) (A : Cell) (z : Int32) (o len : Nat) (args : Array Value) (s : State) : Prop := args = #[.ref a, .ref b, .int (Int32.ofNat o), .int (Int32.ofNat len), .null] ∧ Blank "java/lang/String" a D s ∧ Found "java/lang/String" "value" "[B" fV s ∧ Found "java/lang/String" "coder" "B" fC s ∧ Ch b A s ∧ StaticIs s "java/lang/String" "COMPACT_STRINGS" "Z" (.int z) ∧ ¬ z = 0 ∧ 0 < len ∧ o + len ≤ A.slots.size ∧ len ≤ 536870912 ∧ ∀ i, i < len → ¬ 255 < cv A (o + i)
def E (a : Addr) (D : Cell) (fV fC : Field) (A : Cell) (o len : Nat) (r : Option Value) (s u : State) : Prop := Got a D fV fC A o len r s u
/-- len > 0, no char of the range above 255: a Latin-1 String of their low bytes -/
theorem law (l : Launch) (a : Addr) (D : Cell) (fV fC : Field) (b : Addr) (A : Cell) (z : Int32) (o len : Nat) : Law l yN 5 4 2 35 yB 6 none site (P a D fV fC b A z o len) (E a D fV fC A o len) [⟨a, fC.slot⟩, ⟨a, fV.slot⟩] 1 len := by
  refine Law.of_walk (plainFor_of_name (by decide +kernel)) (by decide +kernel) (by decide +kernel) (by decide) (fun _ _ h => by rw [h.1]; rfl) (fun _ U U' hal hh h => ⟨h.1, h.2.1.mv hal hh, h.2.2.1.al hal, h.2.2.2.1.al hal, h.2.2.2.2.1.mv hal hh, h.2.2.2.2.2.1.there hal hh, h.2.2.2.2.2.2⟩) (fun r U U' V V' h1 hal h2 h => Got.mv r U U' V V' h1 hal h2 h) ?_
  intro p e s m args below meth c s₁ X0 hexec hbytes hml hret hlk hnm hown hh0 W hP
  obtain ⟨rfl, hB, f1, f2, hA, s1, hz, l0, l1, l2, hp⟩ := hP
  have a31 := hA.1.2.2.2
  have c1 : Steps p.tables e below (s₁.setTop (entryFrame m #[.ref a, .ref b, .int (Int32.ofNat o), .int (Int32.ofNat len), .null] 6)) (s₁.setTop (mkF m 0 #[.val (.ref a), .val (.ref b), .val (.int (Int32.ofNat o)), .val (.int (Int32.ofNat len)), .val .null, .unset] [])) := entry rfl
  have c2 : Steps p.tables e below (s₁.setTop (entryFrame m #[.ref a, .ref b, .int (Int32.ofNat o), .int (Int32.ofNat len), .null] 6)) (s₁.setTop (mkF m 1 #[.val (.ref a), .val (.ref b), .val (.int (Int32.ofNat o)), .val (.int (Int32.ofNat len)), .val .null, .unset] [.ref a])) := c1.trans (by
    refine XS.aloadN X0.here hexec rfl (hb hbytes d0) rfl rfl ?_
    exact Steps.refl _)
  obtain ⟨T3, X3, q3, st3⟩ := X0.oinit hexec hown (wks W (objW "java/lang/String" 1)) (g := (mkF m 1 #[.val (.ref a), .val (.ref b), .val (.int (Int32.ofNat o)), .val (.int (Int32.ofNat len)), .val .null, .unset] [.ref a])) rfl (by rw [hml]; rfl) (rest := []) rfl (hb hbytes d1) (W := 0) (by show 2 * 0 + 0 ≤ _; decide) (Nat.le_of_ble_eq_true rfl) (Nat.le_of_ble_eq_true rfl)
  have hh3 := q3.trans hh0
  have c4 : Steps p.tables e below (s₁.setTop (entryFrame m #[.ref a, .ref b, .int (Int32.ofNat o), .int (Int32.ofNat len), .null] 6)) (T3.setTop (mkF m 27 #[.val (.ref a), .val (.ref b), .val (.int (Int32.ofNat o)), .val (.int (Int32.ofNat len)), .val .null, .unset] [])) := (c2.trans (st3 _ (Steps.refl _))).trans (by
    refine XS.iloadN X3.here hexec rfl (hb hbytes d4) rfl ?_
    refine XS.ifYes X3.here hexec rfl (pc0 := 5) rfl (hb hbytes d5) rfl (i0_ne_t (nz32 (by omega) l0)) (by decide) rfl ?_
    exact Steps.refl _)
  obtain ⟨T5, X5, q5, st5⟩ := X3.sget hexec hown (wk W (.fieldLink "java/lang/String" 38 "java/lang/String" "COMPACT_STRINGS" "Z")) s1 (fun _ _ h => by rw [hh3]; exact h) (g := (mkF m 27 #[.val (.ref a), .val (.ref b), .val (.int (Int32.ofNat o)), .val (.int (Int32.ofNat len)), .val .null, .unset] [])) rfl (hb hbytes d27)
  have hh5 := q5.trans hh3
  have c6 : Steps p.tables e below (s₁.setTop (entryFrame m #[.ref a, .ref b, .int (Int32.ofNat o), .int (Int32.ofNat len), .null] 6)) (T5.setTop (mkF m 30 #[.val (.ref a), .val (.ref b), .val (.int (Int32.ofNat o)), .val (.int (Int32.ofNat len)), .val .null, .unset] [.int z])) := c4.trans (st5 _ (Steps.refl _))
  have c7 : Steps p.tables e below (s₁.setTop (entryFrame m #[.ref a, .ref b, .int (Int32.ofNat o), .int (Int32.ofNat len), .null] 6)) (T5.setTop (mkF m 36 #[.val (.ref a), .val (.ref b), .val (.int (Int32.ofNat o)), .val (.int (Int32.ofNat len)), .val .null, .unset] [.int (Int32.ofNat len), .int (Int32.ofNat o), .ref b])) := c6.trans (by
    refine XS.ifNo X5.here hexec rfl (hb hbytes d30) rfl (i0_eq_f hz) ?_
    refine XS.aloadN X5.here hexec rfl (hb hbytes d33) rfl rfl ?_
    refine XS.iloadN X5.here hexec rfl (hb hbytes d34) rfl ?_
    refine XS.iloadN X5.here hexec rfl (hb hbytes d35) rfl ?_
    exact Steps.refl _)
  obtain ⟨v8, T8, X8, E8, g8⟩ := X5.callS hexec (Cmp3.law l b A o len) hown (wks W (staticW "java/lang/String" 177 Cmp3.yN)) (wk W Cmp3.tab) (W := 0) (Nat.le_of_ble_eq_true rfl) (Nat.le_of_ble_eq_true rfl) (Nat.le_refl _) (by show 0 + len ≤ len; omega) (g := (mkF m 36 #[.val (.ref a), .val (.ref b), .val (.int (Int32.ofNat o)), .val (.int (Int32.ofNat len)), .val .null, .unset] [.int (Int32.ofNat len), .int (Int32.ofNat o), .ref b])) rfl (by rw [hml]; rfl) c7 (argsL := [.ref b, .int (Int32.ofNat o), .int (Int32.ofNat len)]) (rest := []) rfl rfl (by show 2 * 0 + 0 ≤ _; decide) (hb hbytes d36) (⟨rfl, hA.mv X5.warmed.alike hh5, l1, l2, hp⟩)
  obtain ⟨e8, z8⟩ := E8
  obtain ⟨rfl, N, n1, n2, n3, n4, n5, n6⟩ := NewArr.mv _ T5 s _ _ hh5.symm (Vm.Alike.refl _) rfl e8
  rw [hh5] at z8
  have hB1 := hB.keep X8.warmed.alike (n6 _ _ hB.1)
  have hne : s.heap.size ≠ a := (Nat.ne_of_lt (Array.getElem?_eq_some_iff.mp hB.1).1).symm
  have c9 : Steps p.tables e below (s₁.setTop (entryFrame m #[.ref a, .ref b, .int (Int32.ofNat o), .int (Int32.ofNat len), .null] 6)) (T8.setTop (mkF m 39 #[.val (.ref a), .val (.ref b), .val (.int (Int32.ofNat o)), .val (.int (Int32.ofNat len)), .val .null, .unset] [.ref s.heap.size])) := g8
  have c10 : Steps p.tables e below (s₁.setTop (entryFrame m #[.ref a, .ref b, .int (Int32.ofNat o), .int (Int32.ofNat len), .null] 6)) (T8.setTop (mkF m 45 #[.val (.ref a), .val (.ref b), .val (.int (Int32.ofNat o)), .val (.int (Int32.ofNat len)), .val .null, .val (.ref s.heap.size)] [.int (Int32.ofNat N.slots.size), .ref s.heap.size, .ref a])) := by
    have hc : Steps p.tables e below (s₁.setTop (entryFrame m #[.ref a, .ref b, .int (Int32.ofNat o), .int (Int32.ofNat len), .null] 6)) (T8.setTop (mkF m 45 #[.val (.ref a), .val (.ref b), .val (.int (Int32.ofNat o)), .val (.int (Int32.ofNat len)), .val .null, .val (.ref s.heap.size)] [.int (Int32.ofNat len), .ref s.heap.size, .ref a])) := c9.trans (by
      refine XS.astore X8.here hexec rfl (hb hbytes d39) rfl rfl rfl ?_
      refine XS.aloadN X8.here hexec rfl (hb hbytes d41) rfl rfl ?_
      refine XS.aload X8.here hexec rfl (hb hbytes d42) rfl rfl ?_
      refine XS.iloadN X8.here hexec rfl (hb hbytes d44) rfl ?_
      exact Steps.refl _)
    rw [n4]; exact hc
  obtain ⟨v11, T11, X11, E11, g11⟩ := X8.callS hexec (CodL.law l s.heap.size N) hown (wks W (staticW "java/lang/String" 47 CodL.yN)) (wk W CodL.tab) (W := 1) (Nat.le_of_ble_eq_true rfl) (Nat.le_of_ble_eq_true rfl) (Nat.le_refl _) (by show 0 + len + 0 ≤ len; omega) (g := (mkF m 45 #[.val (.ref a), .val (.ref b), .val (.int (Int32.ofNat o)), .val (.int (Int32.ofNat len)), .val .null, .val (.ref s.heap.size)] [.int (Int32.ofNat N.slots.size), .ref s.heap.size, .ref a])) rfl (by rw [hml]; rfl) c10 (argsL := [.ref s.heap.size, .int (Int32.ofNat N.slots.size)]) (rest := [.ref a]) rfl rfl (by show 2 * 0 + (1 + 0) ≤ _; decide) (hb hbytes d45) (⟨rfl, n1⟩)
  obtain ⟨rfl, q11⟩ := E11
  have hB11 := hB1.mv (X8.warmed.alike.symm.trans X11.warmed.alike) q11
  have c12 : Steps p.tables e below (s₁.setTop (entryFrame m #[.ref a, .ref b, .int (Int32.ofNat o), .int (Int32.ofNat len), .null] 6)) (T11.setTop (mkF m 48 #[.val (.ref a), .val (.ref b), .val (.int (Int32.ofNat o)), .val (.int (Int32.ofNat len)), .val .null, .val (.ref s.heap.size)] [.int 0, .ref a])) := g11
  obtain ⟨T13, X13, p13, bl13, sl13, st13⟩ := X11.finit hexec hown (wk W (.fieldLink "java/lang/String" 15 "java/lang/String" "coder" "B")) (Or.inr ⟨_, (wk W (.laysFinal "java/lang/String" "java/lang/String" "coder" "B"))⟩) (Or.inl ⟨rfl, hnm⟩) f2 (Or.inl rfl) hB11 (t := .byte) (by decide +kernel) rfl (g := (mkF m 48 #[.val (.ref a), .val (.ref b), .val (.int (Int32.ofNat o)), .val (.int (Int32.ofNat len)), .val .null, .val (.ref s.heap.size)] [.int 0, .ref a])) rfl (rest := []) rfl (hb hbytes d48)
  have c14 : Steps p.tables e below (s₁.setTop (entryFrame m #[.ref a, .ref b, .int (Int32.ofNat o), .int (Int32.ofNat len), .null] 6)) (T13.setTop (mkF m 54 #[.val (.ref a), .val (.ref b), .val (.int (Int32.ofNat o)), .val (.int (Int32.ofNat len)), .val .null, .val (.ref s.heap.size)] [.ref s.heap.size, .ref a])) := (c12.trans (st13 _ (Steps.refl _))).trans (by
    refine XS.aloadN X13.here hexec rfl (hb hbytes d51) rfl rfl ?_
    refine XS.aload X13.here hexec rfl (hb hbytes d52) rfl rfl ?_
    exact Steps.refl _)
  obtain ⟨T15, X15, p15, bl15, sl15, st15⟩ := X13.finit hexec hown (wk W (.fieldLink "java/lang/String" 9 "java/lang/String" "value" "[B")) (Or.inr ⟨_, (wk W (.laysFinal "java/lang/String" "java/lang/String" "value" "[B"))⟩) (Or.inl ⟨rfl, hnm⟩) f1 (Or.inl rfl) bl13 (t := (.array .byte)) (by decide +kernel) rfl (g := (mkF m 54 #[.val (.ref a), .val (.ref b), .val (.int (Int32.ofNat o)), .val (.int (Int32.ofNat len)), .val .null, .val (.ref s.heap.size)] [.ref s.heap.size, .ref a])) rfl (rest := []) rfl (hb hbytes d54)
  have c16 : Steps p.tables e below (s₁.setTop (entryFrame m #[.ref a, .ref b, .int (Int32.ofNat o), .int (Int32.ofNat len), .null] 6)) (T15.setTop (mkF m 57 #[.val (.ref a), .val (.ref b), .val (.int (Int32.ofNat o)), .val (.int (Int32.ofNat len)), .val .null, .val (.ref s.heap.size)] [])) := c14.trans (st15 _ (Steps.refl _))
  have ap := apart (Or.inr ⟨_, (wk W (.laysFinal "java/lang/String" "java/lang/String" "value" "[B"))⟩) (Or.inr ⟨_, (wk W (.laysFinal "java/lang/String" "java/lang/String" "coder" "B"))⟩) f1 f2 (t₁ := .array .byte) (t₂ := .byte) (by decide +kernel) (by decide +kernel) (by decide)
  have al := X8.warmed.alike.symm.trans X15.warmed.alike
  have n7 : T11.heap[s.heap.size]? = some N := by rw [q11]; exact n1.1
  exact ⟨T15, none, _, _, _, X15, by simp, rfl, by omega, (fun _ => rfl), ⟨rfl, _, N, bl15, ((Same.refl D _).set _ (by simp)).set _ (by simp), sl15, (Cell.slots_setSlot_ne _ ap).trans sl13, n1.keep al (p15.other hne (p13.other hne n7)), n2, by rw [al.findClass]; exact n3, n4, n5, fun y c h1 h2 => p15.other h1 (p13.other h1 (by rw [q11]; exact n6 y c h2)), by rw [p15.2.2, p13.2.2, q11]; exact z8⟩, fun fs hl => c16.trans (X15.returnOut hexec hret (hb hbytes d57) hl)⟩
end New4
namespace New1
def yN : MethodName := ⟨"java/lang/String", "<init>", "([C)V"⟩
abbrev yB : ByteArray := jdk_42_method_3_code
theorem d0 : decode yB 0 = .ok (.aload_n 0, 1) := by decide +kernel
theorem d1 : decode yB 1 = .ok (.aload_n 1, 1) := by decide +kernel
theorem d2 : decode yB 2 = .ok (.iconst 0, 1) := by decide +kernel
theorem d3 : decode yB 3 = .ok (.aload_n 1, 1) := by decide +kernel
theorem d4 : decode yB 4 = .ok (.arraylength, 1) := by decide +kernel
theorem d5 : decode yB 5 = .ok (.aconst_null, 1) := by decide +kernel
theorem d6 : decode yB 6 = .ok (.invokespecial 27, 3) := by decide +kernel
theorem d9 : decode yB 9 = .ok (.return_, 1) := by decide +kernel
def site : List Cond := [New4.tab] ++ initW "java/lang/String" 27 New4.yN
def tab : Cond := tabOf yN yB 2 none site
def P (a : Addr) (D : Cell) (fV fC : Field) (b : Addr) (A : Cell) (z : Int32) (args : Array Value) (s : State) : Prop := args = #[.ref a, .ref b] ∧ Blank "java/lang/String" a D s ∧ Found "java/lang/String" "value" "[B" fV s ∧ Found "java/lang/String" "coder" "B" fC s ∧ Ch b A s ∧ StaticIs s "java/lang/String" "COMPACT_STRINGS" "Z" (.int z) ∧ ¬ z = 0 ∧ 0 < A.slots.size ∧ A.slots.size ≤ 536870912 ∧ ∀ i, i < A.slots.size → ¬ 255 < cv A i
def E (a : Addr) (D : Cell) (fV fC : Field) (A : Cell) (r : Option Value) (s u : State) : Prop := Got a D fV fC A 0 A.slots.size r s u
/-- new String(chars), not empty, no char above 255: a Latin-1 String of their low bytes -/
theorem law (l : Launch) (a : Addr) (D : Cell) (fV fC : Field) (b : Addr) (A : Cell) (z : Int32) : Law l yN 2 1 3 52 yB 2 none site (P a D fV fC b A z) (E a D fV fC A) [⟨a, fC.slot⟩, ⟨a, fV.slot⟩] 1 A.slots.size := by
  refine Law.of_walk (plainFor_of_name (by decide +kernel)) (by decide +kernel) (by decide +kernel) (by decide) (fun _ _ h => by rw [h.1]; rfl) (fun _ U U' hal hh h => ⟨h.1, h.2.1.mv hal hh, h.2.2.1.al hal, h.2.2.2.1.al hal, h.2.2.2.2.1.mv hal hh, h.2.2.2.2.2.1.there hal hh, h.2.2.2.2.2.2⟩) (fun r U U' V V' h1 hal h2 h => Got.mv r U U' V V' h1 hal h2 h) ?_
  intro p e s m args below meth c s₁ X0 hexec hbytes hml hret hlk hnm hown hh0 W hP
  obtain ⟨rfl, hB, f1, f2, hA, s1, hz, l0, l2, hp⟩ := hP
  have c1 : Steps p.tables e below (s₁.setTop (entryFrame m #[.ref a, .ref b] 2)) (s₁.setTop (mkF m 0 #[.val (.ref a), .val (.ref b)] [])) := entry rfl
  have c2 : Steps p.tables e below (s₁.setTop (entryFrame m #[.ref a, .ref b] 2)) (s₁.setTop (mkF m 6 #[.val (.ref a), .val (.ref b)] [.null, .int (Int32.ofNat A.slots.size), .int 0, .ref b, .ref a])) := c1.trans (by
    refine XS.aloadN X0.here hexec rfl (hb hbytes d0) rfl rfl ?_
    refine XS.aloadN X0.here hexec rfl (hb hbytes d1) rfl rfl ?_
    refine iconstV X0.here hexec rfl 0 (hb hbytes d2) (by decide) ?_
    refine XS.aloadN X0.here hexec rfl (hb hbytes d3) rfl rfl ?_
    refine X0.alen hexec (hA.1.mv X0.warmed.alike hh0) rfl rfl (hb hbytes d4) ?_
    refine XS.aconstNull X0.here hexec rfl (hb hbytes d5) ?_
    exact Steps.refl _)
  obtain ⟨v3, T3, X3, E3, g3⟩ := X0.callN hexec (New4.law l a D fV fC b A z 0 A.slots.size) rfl hown (wks W (initW "java/lang/String" 27 New4.yN)) (W New4.tab (by simp only [site, List.mem_cons, List.mem_append, true_or, or_true])) (W := 0) (Nat.le_of_ble_eq_true rfl) (Nat.le_of_ble_eq_true rfl) (Nat.le_refl _) (by show 0 + A.slots.size ≤ A.slots.size; omega) (g := (mkF m 6 #[.val (.ref a), .val (.ref b)] [.null, .int (Int32.ofNat A.slots.size), .int (Int32.ofNat 0), .ref b, .ref a])) rfl (by rw [hml]; rfl) c2 (argsL := [.ref b, .int (Int32.ofNat 0), .int (Int32.ofNat A.slots.size), .null]) (rest := []) rfl rfl (by show 2 * 0 + 0 ≤ _; decide) (hb hbytes d6) (⟨rfl, hB.mv X0.warmed.alike hh0, f1.al X0.warmed.alike, f2.al X0.warmed.alike, hA.mv X0.warmed.alike hh0, s1.there X0.warmed.alike hh0, hz, l0, by omega, l2, fun i hi => by rw [Nat.zero_add]; exact hp i hi⟩)
  have e0 := Got.mv _ s₁ s _ _ hh0.symm (Vm.Alike.refl _) rfl E3
  obtain rfl := e0.1
  have c4 : Steps p.tables e below (s₁.setTop (entryFrame m #[.ref a, .ref b] 2)) (T3.setTop (mkF m 9 #[.val (.ref a), .val (.ref b)] [])) := g3
  exact ⟨T3, none, _, _, _, X3, by simp, rfl, by omega, (fun _ => rfl), e0, fun fs hl => c4.trans (X3.returnOut hexec hret (hb hbytes d9) hl)⟩
theorem pays {l : Launch} {R : Room} {p : Program} {e : Env} {below : List Frame} {s : State} {sargs : Array Value} {len W : Nat} (a : Addr) (D : Cell) (fV fC : Field) (b : Addr) (A : Cell) (z : Int32) (htab : tab.before sargs s = true) (hfr : 4 ≤ R.frames) (hlo : W + 65 ≤ R.locals) :
    Back l R p e below s sargs yN len W (fun A₁ a₁ => A₁.cells + 1 ≤ R.cells ∧ A₁.slots + A.slots.size ≤ R.slots ∧ P a D fV fC b A z a₁ A₁.U) (fun A₁ _ v₁ B₁ => E a D fV fC A v₁ A₁.U B₁.U ∧ B₁.locs = A₁.locs ++ [⟨a, fC.slot⟩, ⟨a, fV.slot⟩] ∧ B₁.cells = A₁.cells + 1 ∧ B₁.slots = A₁.slots + A.slots.size) :=
  (law l a D fV fC b A z).pays htab hfr (by omega)
end New1
/-- the byte, read back as charAt reads it, is the char -/
theorem lo8_mask {x : Int32} (h0 : ¬ x < 0) (h1 : ¬ 255 < x) : lo8 x &&& 255 = x := by
  have t : ∀ k : Fin 256, lo8 (Int32.ofNat k.val) &&& 255 = Int32.ofNat k.val := by decide +kernel
  rw [Int32.lt_iff_toInt_lt] at h0 h1
  have e0 : (0 : Int32).toInt = 0 := rfl
  have e1 : (255 : Int32).toInt = 255 := rfl
  obtain ⟨k, hk⟩ : ∃ k : Nat, x.toInt = k := ⟨x.toInt.toNat, by omega⟩
  have hx : x = Int32.ofNat k := Int32.toInt_inj.mp (by rw [hk, Int32.toInt_ofNat_small (by omega)])
  rw [hx]
  exact t ⟨k, by omega⟩
end StrChars
namespace StrChars.Road
open Jvm Sem ClassFile Op Lib Jvm.Stand Jvm.Free Jvm.Free.XT
open Jvm.Lib.Cold (StaticIs)
abbrev ST : String := "java/lang/String"
/-- every table word that New1's law asks, flat -/
abbrev words : List Jvm.Cond := [.code New1.yN New1.yB 2 none, .initialized ST, .methodLink ST 27 New4.yN, .instanceMethod New4.yN,
  .code New4.yN New4.yB 6 none, .fieldLink ST 38 ST "COMPACT_STRINGS" "Z", .laysFinal ST ST "value" "[B", .fieldLink ST 9 ST "value" "[B", .laysFinal ST ST "coder" "B", .fieldLink ST 15 ST "coder" "B",
  .methodLink ST 1 Lib.objectInit, .instanceMethod Lib.objectInit, .code Lib.objectInit ⟨#[0xb1]⟩ 1 none, .methodLink ST 177 Cmp3.yN, .static Cmp3.yN, .methodLink ST 47 CodL.yN, .static CodL.yN,
  .code Cmp3.yN Cmp3.yB 6 (some (.array .byte)), .initialized U16, .arrayClass .byte, .methodLink U16 115 Cmp5.yN, .static Cmp5.yN, .code Cmp5.yN Cmp5.yB 7 (some .int), .code CodL.yN CodL.yB 2 (some .byte)]
theorem tab_of {a : Array Value} {s : State} (h : ∀ w ∈ words, w.before a s = true) : New1.tab.before a s = true := by
  have h5 : Cmp5.tab.before a s = true := unparts (wk h (.code Cmp5.yN Cmp5.yB 7 (some .int))) (wks h (.initialized Cmp5.yN.cls :: Cmp5.site))
  have hc : CodL.tab.before a s = true := unparts (wk h (.code CodL.yN CodL.yB 2 (some .byte))) (wks h (.initialized CodL.yN.cls :: CodL.site))
  have q5 : ∀ w ∈ Cmp5.tab :: words, w.before a s = true := fun w hw => (List.mem_cons.mp hw).elim (fun e => e ▸ h5) (h w)
  have h3 : Cmp3.tab.before a s = true := unparts (wk q5 (.code Cmp3.yN Cmp3.yB 6 (some (.array .byte)))) (wks q5 (.initialized Cmp3.yN.cls :: Cmp3.site))
  have q3 : ∀ w ∈ Cmp3.tab :: CodL.tab :: words, w.before a s = true := fun w hw => (List.mem_cons.mp hw).elim (fun e => e ▸ h3) fun hw => (List.mem_cons.mp hw).elim (fun e => e ▸ hc) (h w)
  have h4 : New4.tab.before a s = true := unparts (wk q3 (.code New4.yN New4.yB 6 none)) (wks q3 (.initialized New4.yN.cls :: New4.site))
  have q4 : ∀ w ∈ New4.tab :: words, w.before a s = true := fun w hw => (List.mem_cons.mp hw).elim (fun e => e ▸ h4) (h w)
  exact unparts (wk q4 (.code New1.yN New1.yB 2 none)) (wks q4 (.initialized New1.yN.cls :: New1.site))
/-- the words ride from the start Z to the walk's own state -/
theorem moved {Z s : State} {a0 args : Array Value} (hZ : Z.Warmed39 s.vm) (hw : ∀ d ∈ words, d.before a0 Z = true) : ∀ d ∈ words, d.before args s = true := fun d hd => by
  have q := hw d hd
  have t : ∀ d ∈ words, d = .arrayClass .byte ∨ (d.onTables && d.keepsFace) = true := by decide +kernel
  rcases t d hd with rfl | t
  · exact RoadKit.mvA hZ q
  · exact RoadKit.mv hZ q t
/-- WHAT COMES BACK, over the tables of the start Z: h the heap at the call, h' behind it -/
def Q (Z : State) (x : Addr) (A : Cell) (h : Heap) (v : Option Value) (h' : Heap) (L : List Loc) : Prop := v = none ∧ (∀ y ∈ L, y.base = x) ∧ RoadKit.Keep h h' [x] ∧ h'.size = h.size + 1 ∧ RoadKit.Exa Z h' x ST ∧ RoadKit.Fld Z h' x ST "value" "[B" (.ref h.size) ∧ RoadKit.Fld Z h' x ST "coder" "B" (.int 0) ∧
  (∃ V : Cell, RoadKit.Arr Z h' h.size V .byte ∧ V.vm = .none ∧ Z.vm.findClass "[B" = some V.cls ∧ V.slots.size = A.slots.size ∧ ∀ j, j < A.slots.size → V.slots[j]? = some (.int (lo8 (cv A j)))) ∧
  ∀ (O n d : String) (w : Value), RoadKit.Fld Z h x O n d w → RoadKit.slotOf Z O n d ≠ RoadKit.slotOf Z ST "value" "[B" → RoadKit.slotOf Z O n d ≠ RoadKit.slotOf Z ST "coder" "B" → RoadKit.Fld Z h' x O n d w
/-- **new String(chars) AT A CALL, IN THE ROAD'S FORM**: for specialBack behind newO: x the fresh String, b the char[] with the cell A -/
theorem back {p : Program} {l : Launch} {e : Env} {R : Room} {s : State} {args : Array Value} {below : List Frame} {len W : Nat} {Z : State} {a0 : Array Value} {h : Heap} (hZ : Z.Warmed39 s.vm) (hw : ∀ d ∈ words, d.before a0 Z = true) {kI : Nat} (wi : (Jvm.Cond.instantiable ST kI).before a0 Z = true)
    {x b : Addr} {A : Cell} {z : Int32} {v0 c0 : Value} (E : RoadKit.Exa Z h x ST) (V : RoadKit.Fld Z h x ST "value" "[B" v0) (C : RoadKit.Fld Z h x ST "coder" "B" c0) (K : RoadKit.Arr Z h b A .char) (hty : Typed .char A) (S : RoadKit.Sta Z h ST "COMPACT_STRINGS" "Z" (.int z)) (hz : ¬ z = 0)
    (l0 : 0 < A.slots.size) (l2 : A.slots.size ≤ 536870912) (hp : ∀ i, i < A.slots.size → ¬ 255 < cv A i) (hfr : 4 ≤ R.frames) (hlo : W + 65 ≤ R.locals) :
    Back l R p e below s args New1.yN len W (fun P a => a = #[.ref x, .ref b] ∧ P.U.heap = h ∧ P.cells + 1 ≤ R.cells ∧ P.slots + A.slots.size ≤ R.slots)
      (fun P _ v B => ∃ L, Q Z x A h v B.U.heap L ∧ B.locs = P.locs ++ L ∧ B.cells = P.cells + 1 ∧ B.slots = P.slots + A.slots.size) := by
  intro m meth c P g ig mk a X hg hsize hdg hW hn hp'
  obtain ⟨rfl, rfl, r1, r2⟩ := hp'
  have al : Z.vm.Alike P.U.vm := hZ.alike.trans X.warmed.alike
  obtain ⟨D, cfV, kV, iV, fV, hD, gV, stV, knV, obV, asV, slV⟩ := id V
  obtain ⟨D', cfC, kC, iC, fC, hD', gC, stC, -, -, asC, slC⟩ := id C
  cases hD.symm.trans hD'
  obtain ⟨D2, kD, e1, e2, e3, e4, e5⟩ := id E
  cases hD.symm.trans e1
  obtain ⟨c2, k2, i1, i2, i3, -⟩ := Cond.instantiable_spec wi
  cases e2.symm.trans i1
  cases e3.symm.trans i2
  obtain ⟨kU, u1, u2⟩ := al.2.2 _ _ e3
  have hB : Blank ST x D P.U := ⟨hD, ⟨knV, fun q hq => by rw [hq] at obV; cases obV⟩, by rw [al.findClass]; exact e2, kU, u1, by rw [u2]; exact i3, by rw [u2]; exact e5 i3⟩
  have F1 : Found ST "value" "[B" fV P.U := ⟨SBG.found_only al ⟨cfV, kV, iV, gV⟩, stV⟩
  have F2 : Found ST "coder" "B" fC P.U := ⟨SBG.found_only al ⟨cfC, kC, iC, gC⟩, stC⟩
  have hA : Ch b A P.U := ⟨⟨K.1, State.isArrayOf_alike al K.2.1, K.2.2, by omega⟩, hty⟩
  have hS : StaticIs P.U ST "COMPACT_STRINGS" "Z" (.int z) := by
    obtain ⟨cfS, iS, kS, fS, st, cS, t1, t2, t3, t4, t5, t6, t7⟩ := S
    exact StaticIs.there (s := { Z with heap := P.U.heap }) ⟨cfS, iS, kS, fS, st, cS, t1, t2, t3, t4, t5, (fun q => by rw [q] at t6; cases t6), t7⟩ al rfl
  obtain ⟨v, B, X', ⟨⟨hv, E', V', q1, q2, q3, q4, q5, q6, q7, q8, q9, q10, q11⟩, hl, hc, hs⟩, st⟩ := New1.pays x D fV fC b A z (tab_of (moved hZ hw)) hfr hlo m meth c P g ig mk _ X hg hsize hdg hW hn ⟨r1, r2, rfl, hB, F1, F2, hA, hS, hz, l0, l2, hp⟩
  have al' : Z.vm.Alike B.U.vm := hZ.alike.trans X'.warmed.alike
  have hsz : E'.slots.size = D.slots.size := by
    obtain ⟨-, -, -, kB, w1, w2, w3⟩ := q1
    obtain ⟨kB', y1, y2⟩ := al'.2.2 _ _ e3
    rw [q2.2.1] at w1
    cases w1.symm.trans y1
    rw [w3, e5 i3, y2]
  refine ⟨v, B, X', ⟨_, ⟨hv, ?_, ⟨by omega, fun y cy hy hn' => q10 y cy (by simpa using hn') hy, fun y cy hy => ?_⟩, q11, ⟨E', _, q1.1, by rw [q2.2.1]; exact e2, by rw [q2.2.1]; exact e3, by rw [q2.1]; exact obV, fun _ => by rw [hsz]; exact e5 i3⟩,
    ⟨E', cfV, kV, iV, fV, q1.1, gV, stV, by rw [q2.1]; exact knV, by rw [q2.1]; exact obV, by rw [q2.2.1]; exact asV, q3⟩, ⟨E', cfC, kC, iC, fC, q1.1, gC, stC, by rw [q2.1]; exact knV, by rw [q2.1]; exact obV, by rw [q2.2.1]; exact asC, q4⟩,
    ⟨V', ⟨q5.1, State.isArrayOf_alike al'.symm q5.2.1, q5.2.2.1⟩, q6, by rw [← al'.findClass]; exact q7, q8, fun j hj => by have := q9 j hj; rwa [Nat.zero_add] at this⟩, fun O n d w F n1 n2 => ?_⟩, hl, hc, hs⟩, st⟩
  · intro y hy
    simp only [List.mem_cons, List.not_mem_nil, or_false] at hy
    rcases hy with rfl | rfl <;> rfl
  · by_cases q : y = x
    · subst q
      cases hD.symm.trans hy
      exact ⟨E', q1.1, q2.2.1, q2.1, hsz⟩
    · exact ⟨cy, q10 y cy q hy, rfl, rfl, rfl⟩
  · obtain ⟨D3, cf, k, i, f, g1, g2, g3, g4, g5, g6, g7⟩ := F
    cases hD.symm.trans g1
    simp only [RoadKit.slotOf, g2, gV, gC, Option.map_some, Option.getD_some] at n1 n2
    exact ⟨E', cf, k, i, f, q1.1, g2, g3, by rw [q2.1]; exact g4, by rw [q2.1]; exact g5, by rw [q2.2.1]; exact g6, by rw [q2.2.2 f.slot (by simp [n1, n2])]; exact g7⟩
end StrChars.Road
namespace StrChars.Road
open Jvm Sem ClassFile Op Lib Jvm.Stand Jvm.Free Jvm.Free.XT
/-- WHAT COMES BACK, the byte[] as a list of values -/
def QA (Z : State) (x : Addr) (zn : Int32) (cs : List Int32) (h : Heap) (v : Option Value) (h' : Heap) (L : List Loc) : Prop := v = none ∧ (∀ y ∈ L, y.base = x) ∧ RoadKit.Keep h h' [x] ∧ h'.size = h.size + 1 ∧ RoadKit.Exa Z h' x ST ∧ RoadKit.Fld Z h' x ST "value" "[B" (.ref h.size) ∧ RoadKit.Fld Z h' x ST "coder" "B" (.int 0) ∧
  (∃ kb, Z.vm.findClass "[B" = some kb ∧ RoadKit.Arv Z h' h.size kb .byte zn (cs.map fun c => .int (lo8 c)) (.int 0)) ∧
  ∀ (O n d : String) (w : Value), RoadKit.Fld Z h x O n d w → RoadKit.slotOf Z O n d ≠ RoadKit.slotOf Z ST "value" "[B" → RoadKit.slotOf Z O n d ≠ RoadKit.slotOf Z ST "coder" "B" → RoadKit.Fld Z h' x O n d w
/-- **new String(chars) AT A CALL, THE ARRAYS AS LISTS**: the char[] at b holds cs, not empty, no char above 255 -/
theorem backArv {p : Program} {l : Launch} {e : Env} {R : Room} {s : State} {args : Array Value} {below : List Frame} {len W : Nat} {Z : State} {a0 : Array Value} {h : Heap} (hZ : Z.Warmed39 s.vm) (hw : ∀ d ∈ words, d.before a0 Z = true) {kI : Nat} (wi : (Jvm.Cond.instantiable ST kI).before a0 Z = true)
    {x b : Addr} {k : ClassId} {zn z : Int32} {cs : List Int32} {dv v0 c0 : Value} (E : RoadKit.Exa Z h x ST) (V : RoadKit.Fld Z h x ST "value" "[B" v0) (C : RoadKit.Fld Z h x ST "coder" "B" c0) (K : RoadKit.Arv Z h b k .char zn (cs.map Value.int) dv) (S : RoadKit.Sta Z h ST "COMPACT_STRINGS" "Z" (.int z)) (hz : ¬ z = 0)
    (hlen : zn.toNatClampNeg = cs.length) (h0 : 0 < cs.length) (hbig : cs.length ≤ 536870912) (hall : ∀ c ∈ cs, ¬ 255 < c) (hfr : 4 ≤ R.frames) (hlo : W + 65 ≤ R.locals) :
    Back l R p e below s args New1.yN len W (fun P a => a = #[.ref x, .ref b] ∧ P.U.heap = h ∧ P.cells + 1 ≤ R.cells ∧ P.slots + cs.length ≤ R.slots)
      (fun P _ v B => ∃ L, QA Z x zn cs h v B.U.heap L ∧ B.locs = P.locs ++ L ∧ B.cells = P.cells + 1 ∧ B.slots = P.slots + cs.length) := by
  obtain ⟨A, K1, K2, K3, K4, K5, K6⟩ := K
  have e : A.slots.size = cs.length := K3.trans hlen
  have hat : ∀ (i : Nat) (hi : i < cs.length), A.slots[i]? = some (.int cs[i]) := fun i hi => by rw [K5 i (by omega)]; simp [List.getD_eq_getElem?_getD, hi]
  have hcv : ∀ (i : Nat) (hi : i < cs.length), cv A i = cs[i] := fun i hi => by unfold cv; rw [hat i hi]
  have hty : Typed .char A := fun i v hv => by
    have hi : i < A.slots.size := (Array.getElem?_eq_some_iff.mp hv).1
    have q := K5 i hi
    rw [hv] at q
    rw [Option.some.inj q]
    exact K6 i hi
  refine Back.mono (back hZ hw wi E V C K1 hty S hz (by omega) (by omega) (fun i hi => by rw [hcv i (by omega)]; exact hall _ (List.getElem_mem _)) hfr hlo) (fun P a hp => ⟨hp.1, hp.2.1, hp.2.2.1, by rw [e]; exact hp.2.2.2⟩) (fun P a v B hp hq => ?_)
  obtain ⟨L, ⟨q1, q2, q3, q4, q5, q6, q7, ⟨V', v1, v2, v3, v4, v5⟩, q9⟩, hl, hc, hs⟩ := hq
  refine ⟨L, ⟨q1, q2, q3, q4, q5, q6, q7, ⟨V'.cls, v3, V', v1, rfl, by rw [v4, e, hlen], K4, fun i hi => ?_, fun i hi => ?_⟩, q9⟩, hl, hc, by rw [hs, e]⟩
  · have hi' : i < cs.length := by omega
    rw [v5 i (by omega), hcv i hi']; simp [List.getD_eq_getElem?_getD, hi']
  · have hi' : i < cs.length := by omega
    simp only [List.getD_eq_getElem?_getD, List.getElem?_map, List.getElem?_eq_getElem hi', Option.map_some, Option.getD_some]
    exact fits_lo8 _
end StrChars.Road
namespace StrChars.Road
open Jvm Sem ClassFile Op Lib Jvm.Stand Jvm.Free Jvm.Free.XT
/-- WHAT COMES BACK, in the writer's own shape -/
def QV (Z : State) (x : Addr) (N : Int32) (bs : List Int32) (h : Heap) (n0 : Nat) (v : Option Value) (h' : Heap) (L : List Loc) : Prop := v = none ∧ RoadKit.Fr n0 L ∧ RoadKit.Keep h h' [x] ∧ RoadKit.Exa Z h' x ST ∧ RoadKit.Fld Z h' x ST "coder" "B" (.int 0) ∧
  ∃ (t : Addr) (kb : ClassId), n0 ≤ t ∧ h.size ≤ t ∧ ¬ t = x ∧ RoadKit.Fld Z h' x ST "value" "[B" (.ref t) ∧ RoadKit.Arv Z h' t kb .byte N (bs.map Value.int) (.int 0)
/-- **new String(chars) AT A CALL, FOR THE WRITER**: a char[] of n known ints, each 0 to 255 -/
theorem backV {p : Program} {l : Launch} {e : Env} {R : Room} {s : State} {args : Array Value} {below : List Frame} {len W : Nat} {Z : State} {a0 : Array Value} {h : Heap} (hZ : Z.Warmed39 s.vm) (hw : ∀ d ∈ words, d.before a0 Z = true) {kI : Nat} (wi : (Jvm.Cond.instantiable ST kI).before a0 Z = true)
    {x b : Addr} {kC : ClassId} {cs bs : List Int32} {d v0 c0 : Value} {z N : Int32} {n n0 : Nat} (hx0 : n0 ≤ x) (hh0 : n0 ≤ h.size) (E : RoadKit.Exa Z h x ST) (V : RoadKit.Fld Z h x ST "value" "[B" v0) (C : RoadKit.Fld Z h x ST "coder" "B" c0) (K : RoadKit.Arv Z h b kC .char N (cs.map Value.int) d) (S : RoadKit.Sta Z h ST "COMPACT_STRINGS" "Z" (.int z)) (hz : ¬ z = 0)
    (hn : cs.length = n) (hN : N = Int32.ofNat n) (l0 : 0 < n) (l2 : n ≤ 4000) (hp : ∀ c ∈ cs, ¬ c < 0 ∧ ¬ (255 : Int32) < c) (hb : bs = cs.map (fun c => c.toInt8.toInt32)) (hfr : 4 ≤ R.frames) (hlo : W + 65 ≤ R.locals) :
    Back l R p e below s args (⟨"java/lang/String", "<init>", "([C)V"⟩ : MethodName) len W (fun P a => a = #[.ref x, .ref b] ∧ P.U.heap = h ∧ P.cells + 1 ≤ R.cells ∧ P.slots + n ≤ R.slots)
      (fun P _ v B => ∃ L, QV Z x N bs h n0 v B.U.heap L ∧ B.locs = P.locs ++ L ∧ B.cells = P.cells + 1 ∧ B.slots = P.slots + n) := by
  subst hn hN hb
  refine Back.mono (backArv hZ hw wi E V C K S hz (n32 (by omega)) l0 (by omega) (fun c hc => (hp c hc).2) hfr hlo) (fun P a hp => hp) (fun P a v B hp hq => ?_)
  obtain ⟨L, ⟨q1, q2, q3, q4, q5, q6, q7, ⟨kb, v1, v2⟩, q9⟩, hl, hc, hs⟩ := hq
  exact ⟨L, ⟨q1, fun y hy => by rw [q2 y hy]; exact hx0, q3, q5, q7, h.size, kb, hh0, Nat.le_refl _, Nat.ne_of_gt E.lt, q6, by rw [List.map_map]; exact v2⟩, hl, hc, hs⟩
end StrChars.Road
namespace StrChars
open Jvm Sem ClassFile Op Lib Jvm.Stand Jvm.Free.XT Jvm.Free.ALB Jvm.Free.JM Jvm.Free
open Jvm.Lib.Cold (StaticIs)
def hi8 (x : Int32) : Int32 := lo8 (x >>> ((8 : Int32) &&& 31))
/-- what StringUTF16.getChar makes of two bytes -/
def pairCh (u v : Int32) : Int32 := (((u &&& 255) <<< ((0 : Int32) &&& 31)) ||| ((v &&& 255) <<< ((8 : Int32) &&& 31))).toUInt32.toUInt16.toUInt32.toInt32
theorem lo8_and (x : Int32) : (lo8 x &&& 255).toBitVec.toNat = x.toBitVec.toNat % 256 := by
  have h : (lo8 x).toBitVec = (x.toBitVec.signExtend 8).signExtend 32 := by rw [lo8, Int8.toBitVec_toInt32, Int32.toBitVec_toInt8]
  rw [Int32.toBitVec_and, BitVec.toNat_and, h]
  have e : ((x.toBitVec.signExtend 8).signExtend 32).toNat % 256 = x.toBitVec.toNat % 256 := by
    rw [BitVec.toNat_signExtend]
    have hlt := x.toBitVec.isLt
    simp only [BitVec.toNat_setWidth, BitVec.toNat_signExtend]
    split <;> split <;> omega
  rw [← e]
  exact Nat.and_two_pow_sub_one_eq_mod _ 8
theorem pair_says {c : Int32} (h0 : ¬ c < 0) (h1 : ¬ 65535 < c) : pairCh (lo8 c) (hi8 c) = c := by
  rw [Int32.lt_iff_toInt_lt] at h0 h1
  have e0 : (0 : Int32).toInt = 0 := rfl
  have e1 : (65535 : Int32).toInt = 65535 := rfl
  have hc : c.toInt = c.toBitVec.toNat := by
    have := c.toBitVec.isLt
    have e : c.toInt = c.toBitVec.toInt := rfl
    rw [e] at h0 h1
    rw [e]
    rw [BitVec.toInt_eq_toNat_cond] at h0 h1 ⊢
    split at h0 <;> split <;> omega
  have hn : c.toBitVec.toNat < 65536 := by omega
  have a1 := lo8_and c
  have a2 : (hi8 c &&& 255).toBitVec.toNat = c.toBitVec.toNat / 256 := by
    rw [hi8, lo8_and]
    have e : ((8 : Int32) &&& 31) = 8 := by decide
    rw [e, Int32.toBitVec_shiftRight]
    have e2 : ((8 : Int32).toBitVec.smod 32) = 8#32 := by decide
    rw [e2, BitVec.sshiftRight_eq', BitVec.toNat_sshiftRight_of_msb_false (by rw [BitVec.msb_eq_false_iff_two_mul_lt]; omega)]
    show c.toBitVec.toNat >>> 8 % 256 = _
    rw [Nat.shiftRight_eq_div_pow]
    omega
  unfold pairCh
  apply Int32.toBitVec_inj.mp
  apply BitVec.eq_of_toNat_eq
  have f0 : ((0 : Int32) &&& 31) = 0 := by decide
  have f8 : ((8 : Int32) &&& 31) = 8 := by decide
  rw [f0, f8]
  have g : (((lo8 c &&& 255) <<< (0 : Int32)) ||| ((hi8 c &&& 255) <<< (8 : Int32))).toBitVec.toNat = c.toBitVec.toNat := by
    rw [Int32.toBitVec_or, Int32.toBitVec_shiftLeft, Int32.toBitVec_shiftLeft]
    have s0 : ((0 : Int32).toBitVec.smod 32) = 0#32 := by decide
    have s8 : ((8 : Int32).toBitVec.smod 32) = 8#32 := by decide
    rw [s0, s8, BitVec.toNat_or]
    simp only [BitVec.shiftLeft_eq', BitVec.toNat_shiftLeft, a1, a2]
    show (c.toBitVec.toNat % 256) <<< 0 % 2 ^ 32 ||| (c.toBitVec.toNat / 256) <<< 8 % 2 ^ 32 = _
    rw [Nat.shiftLeft_zero, Nat.mod_eq_of_lt (show c.toBitVec.toNat % 256 < 2 ^ 32 by omega), Nat.mod_eq_of_lt (show (c.toBitVec.toNat / 256) <<< 8 < 2 ^ 32 by rw [Nat.shiftLeft_eq]; omega), Nat.or_comm, ← Nat.shiftLeft_add_eq_or_of_lt (by omega), Nat.shiftLeft_eq]
    omega
  show BitVec.toNat (((((lo8 c &&& 255) <<< (0 : Int32)) ||| ((hi8 c &&& 255) <<< (8 : Int32))).toBitVec.setWidth 16).setWidth 32) = _
  rw [BitVec.toNat_setWidth, BitVec.toNat_setWidth, g]
  omega
end StrChars
namespace StrChars
open Jvm Sem ClassFile Op Lib Jvm.Stand Jvm.Free.XT Jvm.Free.ALB Jvm.Free.JM Jvm.Free
open Jvm.Lib.Cold (StaticIs)
/-- the array's cell V codes the n chars f 0 .. f (n - 1) by the coder cd, as the JDK does: coder 1 just where some char is above 255 -/
def Cod (cd : Int32) (n : Nat) (f : Nat → Int32) (V : Cell) : Prop := (cd = 0 ∧ V.slots.size = n ∧ ∀ j, j < n → V.slots[j]? = some (.int (lo8 (f j))) ∧ ¬ 255 < f j) ∨ (cd = 1 ∧ V.slots.size = 2 * n ∧ (∀ j, j < n → V.slots[2 * j]? = some (.int (lo8 (f j))) ∧ V.slots[2 * j + 1]? = some (.int (hi8 (f j)))) ∧ ∃ j, j < n ∧ 255 < f j)
/-- **x is a String of the n chars f 0 .. f (n - 1)**, Latin-1 or UTF-16; its array at t has the cell V -/
def Txt (x t : Addr) (V : Cell) (cd : Int32) (n : Nat) (f : Nat → Int32) (U : State) : Prop := Exact "java/lang/String" x U ∧ Has x "java/lang/String" "value" "[B" (.ref t) U ∧ Has x "java/lang/String" "coder" "B" (.int cd) U ∧ XT.Arr .byte t V U ∧ Cod cd n f V ∧ ∀ j, j < n → ¬ f j < 0 ∧ ¬ 65535 < f j
theorem Txt.mv {x t : Addr} {V : Cell} {cd : Int32} {n : Nat} {f : Nat → Int32} {U U' : State} (h : Txt x t V cd n f U) (hal : U.vm.Alike U'.vm) (hh : U'.heap = U.heap) : Txt x t V cd n f U' := ⟨h.1.mv hal hh, h.2.1.mv hal hh, h.2.2.1.mv hal hh, h.2.2.2.1.mv hal hh, h.2.2.2.2⟩
end StrChars
namespace StrChars.Road
open Jvm Sem ClassFile Op Lib Jvm.Stand Jvm.Free Jvm.Free.XT
open Jvm.Lib.Cold (StaticIs)
theorem consq {a : Array Value} {s : State} {c : Jvm.Cond} {L : List Jvm.Cond} (h0 : c.before a s = true) (h : ∀ w ∈ L, w.before a s = true) : ∀ w ∈ c :: L, w.before a s = true := fun w hw => (List.mem_cons.mp hw).elim (fun e => e ▸ h0) (h w)
/-- the bytes of the chars cs, low before high -/
def wideBytes : List Int32 → List Value
  | [] => []
  | c :: cs => .int (lo8 c) :: .int (hi8 c) :: wideBytes cs
theorem wide_lo (d : Value) : ∀ (cs : List Int32) (j : Nat), j < cs.length → (wideBytes cs).getD (2 * j) d = .int (lo8 (cs.getD j 0))
  | [], j, h => absurd h (Nat.not_lt_zero j)
  | c :: cs, 0, _ => rfl
  | c :: cs, j + 1, h => by
    have q := wide_lo d cs j (by simpa using h)
    rw [show 2 * (j + 1) = 2 * j + 1 + 1 from by omega]
    simpa [wideBytes] using q
theorem wide_hi (d : Value) : ∀ (cs : List Int32) (j : Nat), j < cs.length → (wideBytes cs).getD (2 * j + 1) d = .int (hi8 (cs.getD j 0))
  | [], j, h => absurd h (Nat.not_lt_zero j)
  | c :: cs, 0, _ => rfl
  | c :: cs, j + 1, h => by
    have q := wide_hi d cs j (by simpa using h)
    rw [show 2 * (j + 1) + 1 = 2 * j + 1 + 1 + 1 from by omega]
    simpa [wideBytes] using q
theorem low_at (d : Value) (cs : List Int32) (j : Nat) (h : j < cs.length) : (cs.map fun c => Value.int (lo8 c)).getD j d = .int (lo8 (cs.getD j 0)) := by
  simp [List.getD_eq_getElem?_getD, h]
/-- an array of N2 bytes vs codes the chars cs by the coder cd -/
def CodA (cs : List Int32) (cd N2 : Int32) (vs : List Value) : Prop := (cd = 0 ∧ N2 = Int32.ofNat cs.length ∧ vs = (cs.map fun c => Value.int (lo8 c)) ∧ ∀ c ∈ cs, ¬ 255 < c) ∨ (cd = 1 ∧ N2 = Int32.ofNat (2 * cs.length) ∧ vs = wideBytes cs ∧ ∃ c ∈ cs, 255 < c)
theorem CodA.cod {cs : List Int32} {cd N2 : Int32} {vs : List Value} {V : Cell} (h : CodA cs cd N2 vs) (hn : 2 * cs.length < 2 ^ 31) (hs : V.slots.size = N2.toNatClampNeg) (hv : RoadKit.Has V vs (.int 0)) : Cod cd cs.length (fun j => cs.getD j 0) V := by
  rcases h with ⟨rfl, rfl, rfl, h⟩ | ⟨rfl, rfl, rfl, c, hc, hw⟩
  · rw [n32 (by omega)] at hs
    exact Or.inl ⟨rfl, hs, fun j hj => ⟨by rw [hv j (by omega), low_at _ _ _ hj], by
      have e : cs.getD j 0 = cs[j] := by simp [List.getD_eq_getElem?_getD, hj]
      show ¬ 255 < cs.getD j 0
      rw [e]; exact h _ (List.getElem_mem _)⟩⟩
  · rw [n32 (by omega)] at hs
    obtain ⟨j, hj, rfl⟩ := List.getElem_of_mem hc
    exact Or.inr ⟨rfl, hs, fun j hj => ⟨by rw [hv _ (by omega), wide_lo _ _ _ hj], by rw [hv _ (by omega), wide_hi _ _ _ hj]⟩, j, hj, by
      have e : cs.getD j 0 = cs[j] := by simp [List.getD_eq_getElem?_getD, hj]
      show 255 < cs.getD j 0
      rw [e]; exact hw⟩
/-- an object of exactly java/lang/String, its two fields found: as the laws ask it -/
theorem strObj {Z U : State} {a0 : Array Value} {kI : Nat} (wi : (Jvm.Cond.instantiable ST kI).before a0 Z = true) (al : Z.vm.Alike U.vm) {x : Addr} {v0 c0 : Value} (E : RoadKit.Exa Z U.heap x ST) (V : RoadKit.Fld Z U.heap x ST "value" "[B" v0) (C : RoadKit.Fld Z U.heap x ST "coder" "B" c0) :
    ∃ (D : Cell) (fV fC : Field), Blank ST x D U ∧ Found ST "value" "[B" fV U ∧ Found ST "coder" "B" fC U ∧ D.slots[fV.slot]? = some v0 ∧ D.slots[fC.slot]? = some c0 ∧ RoadKit.slotOf Z ST "value" "[B" = fV.slot ∧ RoadKit.slotOf Z ST "coder" "B" = fC.slot := by
  obtain ⟨D, cfV, kV, iV, fV, hD, gV, stV, knV, obV, asV, slV⟩ := V
  obtain ⟨D', cfC, kC, iC, fC, hD', gC, stC, -, -, asC, slC⟩ := C
  cases hD.symm.trans hD'
  obtain ⟨D2, kD, e1, e2, e3, e4, e5⟩ := E
  cases hD.symm.trans e1
  obtain ⟨c2, k2, i1, i2, i3, -⟩ := Cond.instantiable_spec wi
  cases e2.symm.trans i1
  cases e3.symm.trans i2
  obtain ⟨kU, u1, u2⟩ := al.2.2 _ _ e3
  exact ⟨D, fV, fC, ⟨hD, ⟨knV, fun q hq => by rw [hq] at obV; cases obV⟩, by rw [al.findClass]; exact e2, kU, u1, by rw [u2]; exact i3, by rw [u2]; exact e5 i3⟩, ⟨SBG.found_only al ⟨cfV, kV, iV, gV⟩, stV⟩, ⟨SBG.found_only al ⟨cfC, kC, iC, gC⟩, stC⟩, slV, slC, by simp [RoadKit.slotOf, gV], by simp [RoadKit.slotOf, gC]⟩
theorem sta_is {Z U : State} (al : Z.vm.Alike U.vm) {C n d : String} {v : Value} (S : RoadKit.Sta Z U.heap C n d v) : StaticIs U C n d v := by
  obtain ⟨cfS, iS, kS, fS, st, cS, t1, t2, t3, t4, t5, t6, t7⟩ := S
  exact StaticIs.there (s := { Z with heap := U.heap }) ⟨cfS, iS, kS, fS, st, cS, t1, t2, t3, t4, t5, (fun q => by rw [q] at t6; cases t6), t7⟩ al rfl
end StrChars.Road
namespace StrChars
open Jvm Sem ClassFile Op Lib Jvm.Stand Jvm.Free.XT Jvm.Free.ALB Jvm.Free.JM Jvm.Free
open Jvm.Lib.Cold (StaticIs)
/-- what place i of a byte[]'s cell holds -/
def yv (A : Cell) (i : Nat) : Int32 := match A.slots[i]? with | some (.int x) => x | _ => 0
theorem yv_get {a : Addr} {A : Cell} {U : State} (h : XT.Arr .byte a A U) (ht : Typed .byte A) {i : Nat} (hi : i < A.slots.size) : A.slots[i]? = some (.int (yv A i)) := by
  have e := Array.getElem?_eq_getElem hi
  have f := ht i _ e
  unfold yv; rw [e]
  generalize A.slots[i] = v at f
  cases v <;> simp [fits] at f ⊢
/-- the two arrays are equal, place for place -/
def EqC (A B : Cell) : Prop := A.slots.size = B.slots.size ∧ ∀ i, i < A.slots.size → yv A i = yv B i
/-- a boolean that says whether p -/
def Says01 (q : Prop) (r : Option Value) (s u : State) : Prop := ∃ v : Int32, r = some (.int v) ∧ u.heap = s.heap ∧ ((v = 1 ∧ q) ∨ (v = 0 ∧ ¬ q))
theorem Says01.mv {q : Prop} : ∀ r (U U' V V' : State), U'.heap = U.heap → V.vm.Alike V'.vm → V'.heap = V.heap → Says01 q r U V → Says01 q r U' V' :=
  fun r U U' V V' h1 _ h2 ⟨v, a, b, c⟩ => ⟨v, a, by rw [h1, h2]; exact b, c⟩
namespace LEq
def yN : MethodName := ⟨"java/lang/StringLatin1", "equals", "([B[B)Z"⟩
abbrev yB : ByteArray := jdk_43_method_13_code
theorem d0 : decode yB 0 = .ok (.aload_n 0, 1) := by decide +kernel
theorem d1 : decode yB 1 = .ok (.arraylength, 1) := by decide +kernel
theorem d2 : decode yB 2 = .ok (.aload_n 1, 1) := by decide +kernel
theorem d3 : decode yB 3 = .ok (.arraylength, 1) := by decide +kernel
theorem d4 : decode yB 4 = .ok (.if_icmp (.ne) 30, 3) := by decide +kernel
theorem d7 : decode yB 7 = .ok (.iconst 0, 1) := by decide +kernel
theorem d8 : decode yB 8 = .ok (.istore_n 2, 1) := by decide +kernel
theorem d9 : decode yB 9 = .ok (.iload_n 2, 1) := by decide +kernel
theorem d10 : decode yB 10 = .ok (.aload_n 0, 1) := by decide +kernel
theorem d11 : decode yB 11 = .ok (.arraylength, 1) := by decide +kernel
theorem d12 : decode yB 12 = .ok (.if_icmp (.ge) 20, 3) := by decide +kernel
theorem d15 : decode yB 15 = .ok (.aload_n 0, 1) := by decide +kernel
theorem d16 : decode yB 16 = .ok (.iload_n 2, 1) := by decide +kernel
theorem d17 : decode yB 17 = .ok (.baload, 1) := by decide +kernel
theorem d18 : decode yB 18 = .ok (.aload_n 1, 1) := by decide +kernel
theorem d19 : decode yB 19 = .ok (.iload_n 2, 1) := by decide +kernel
theorem d20 : decode yB 20 = .ok (.baload, 1) := by decide +kernel
theorem d21 : decode yB 21 = .ok (.if_icmp (.eq) 5, 3) := by decide +kernel
theorem d24 : decode yB 24 = .ok (.iconst 0, 1) := by decide +kernel
theorem d25 : decode yB 25 = .ok (.ireturn, 1) := by decide +kernel
theorem d26 : decode yB 26 = .ok (.iinc 2 1, 3) := by decide +kernel
theorem d29 : decode yB 29 = .ok (.goto (-20), 3) := by decide +kernel
theorem d32 : decode yB 32 = .ok (.iconst 1, 1) := by decide +kernel
theorem d33 : decode yB 33 = .ok (.ireturn, 1) := by decide +kernel
theorem d34 : decode yB 34 = .ok (.iconst 0, 1) := by decide +kernel
theorem d35 : decode yB 35 = .ok (.ireturn, 1) := by decide +kernel
def site : List Cond := []
def tab : Cond := tabOf yN yB 3 (some .boolean) site
def P (a : Addr) (A : Cell) (b : Addr) (B : Cell) (args : Array Value) (s : State) : Prop := args = #[.ref a, .ref b] ∧ XT.Arr .byte a A s ∧ Typed .byte A ∧ XT.Arr .byte b B s ∧ Typed .byte B
/-- whether two byte[] are equal, place for place -/
theorem law (l : Launch) (a : Addr) (A : Cell) (b : Addr) (B : Cell) : Law l yN 2 2 0 0 yB 3 (some .boolean) site (P a A b B) (Says01 (EqC A B)) [] 0 0 := by
  refine Law.of_walk (plainFor_of_name (by decide +kernel)) (by decide +kernel) (by decide +kernel) (by decide) (fun _ _ h => by rw [h.1]; rfl) (fun _ U U' hal hh h => ⟨h.1, h.2.1.mv hal hh, h.2.2.1, h.2.2.2.1.mv hal hh, h.2.2.2.2⟩) (fun r U U' V V' h1 hal h2 h => Says01.mv r U U' V V' h1 hal h2 h) ?_
  intro p e s m args below meth c s₁ X0 hexec hbytes hml hret hlk hnm hown hh0 W hP
  obtain ⟨rfl, hA, tA, hB, tB⟩ := hP
  have a31 := hA.2.2.2
  have b31 := hB.2.2.2
  have hA0 := hA.mv X0.warmed.alike hh0
  have hB0 := hB.mv X0.warmed.alike hh0
  have c1 : Steps p.tables e below (s₁.setTop (entryFrame m #[.ref a, .ref b] 3)) (s₁.setTop (mkF m 0 #[.val (.ref a), .val (.ref b), .unset] [])) := entry rfl
  have c2 : Steps p.tables e below (s₁.setTop (entryFrame m #[.ref a, .ref b] 3)) (s₁.setTop (mkF m 4 #[.val (.ref a), .val (.ref b), .unset] [.int (Int32.ofNat B.slots.size), .int (Int32.ofNat A.slots.size)])) := c1.trans (by
    refine XS.aloadN X0.here hexec rfl (hb hbytes d0) rfl rfl ?_
    refine X0.alen hexec hA0 rfl rfl (hb hbytes d1) ?_
    refine XS.aloadN X0.here hexec rfl (hb hbytes d2) rfl rfl ?_
    refine X0.alen hexec hB0 rfl rfl (hb hbytes d3) ?_
    exact Steps.refl _)
  by_cases hs : A.slots.size = B.slots.size
  · have c3 : Steps p.tables e below (s₁.setTop (entryFrame m #[.ref a, .ref b] 3)) (s₁.setTop (mkF m 9 #[.val (.ref a), .val (.ref b), .val (.int 0)] [])) := c2.trans (by
      refine XS.icmpNo X0.here hexec rfl (hb hbytes d4) rfl (ii_ne_f (by rw [hs])) ?_
      refine iconstV X0.here hexec rfl 0 (hb hbytes d7) (by decide) ?_
      refine XS.istoreN X0.here hexec rfl (hb hbytes d8) rfl rfl ?_
      exact Steps.refl _)
    have loop : ∀ (r i : Nat), i + r = A.slots.size → (∀ j, j < i → yv A j = yv B j) → Steps p.tables e below (s₁.setTop (entryFrame m #[.ref a, .ref b] 3)) (s₁.setTop (mkF m 9 #[.val (.ref a), .val (.ref b), .val (.int (Int32.ofNat i))] [])) → ∃ (pc : Nat) (Ls : Array Slot) (v : Int32), (pc = 25 ∨ pc = 33) ∧ ((v = 1 ∧ EqC A B) ∨ (v = 0 ∧ ¬ EqC A B)) ∧ Steps p.tables e below (s₁.setTop (entryFrame m #[.ref a, .ref b] 3)) (s₁.setTop (mkF m pc Ls [.int v])) := by
      intro r
      induction r with
      | zero =>
        intro i hi he cl
        exact ⟨33, _, 1, Or.inr rfl, Or.inl ⟨rfl, hs, fun j hj => he j (by omega)⟩, cl.trans (by
          refine XS.iloadN X0.here hexec rfl (hb hbytes d9) rfl ?_
          refine XS.aloadN X0.here hexec rfl (hb hbytes d10) rfl rfl ?_
          refine X0.alen hexec hA0 rfl rfl (hb hbytes d11) ?_
          refine XS.icmpYes X0.here hexec rfl (pc0 := 12) rfl (hb hbytes d12) rfl (ii_ge_t (nlt32 (by omega) (by omega))) (by decide) rfl ?_
          refine iconstV X0.here hexec rfl 1 (hb hbytes d32) (by decide) ?_
          exact Steps.refl _)⟩
      | succ r ih =>
        intro i hi he cl
        have c4 : Steps p.tables e below (s₁.setTop (entryFrame m #[.ref a, .ref b] 3)) (s₁.setTop (mkF m 21 #[.val (.ref a), .val (.ref b), .val (.int (Int32.ofNat i))] [.int (yv B i), .int (yv A i)])) := cl.trans (by
          refine XS.iloadN X0.here hexec rfl (hb hbytes d9) rfl ?_
          refine XS.aloadN X0.here hexec rfl (hb hbytes d10) rfl rfl ?_
          refine X0.alen hexec hA0 rfl rfl (hb hbytes d11) ?_
          refine XS.icmpNo X0.here hexec rfl (hb hbytes d12) rfl (ii_ge_f (lt32 (by omega) (by omega))) ?_
          refine XS.aloadN X0.here hexec rfl (hb hbytes d15) rfl rfl ?_
          refine XS.iloadN X0.here hexec rfl (hb hbytes d16) rfl ?_
          refine X0.aget hexec hA0 rfl (yv_get hA tA (i := i) (by omega)) rfl rfl (hb hbytes d17) ?_
          refine XS.aloadN X0.here hexec rfl (hb hbytes d18) rfl rfl ?_
          refine XS.iloadN X0.here hexec rfl (hb hbytes d19) rfl ?_
          refine X0.aget hexec hB0 rfl (yv_get hB tB (i := i) (by omega)) rfl rfl (hb hbytes d20) ?_
          exact Steps.refl _)
        by_cases hv : yv A i = yv B i
        · have c5 : Steps p.tables e below (s₁.setTop (entryFrame m #[.ref a, .ref b] 3)) (s₁.setTop (mkF m 9 #[.val (.ref a), .val (.ref b), .val (.int (Int32.ofNat i + 1))] [])) := c4.trans (by
            refine XS.icmpYes X0.here hexec rfl (pc0 := 21) rfl (hb hbytes d21) rfl (ii_eq_t hv) (by decide) rfl ?_
            refine iincV X0.here hexec rfl 1 (hb hbytes d26) (by decide) rfl rfl ?_
            refine XS.goto X0.here hexec rfl (pc0 := 29) rfl (hb hbytes d29) (by decide) rfl ?_
            exact Steps.refl _)
          rw [succ32] at c5
          exact ih (i + 1) (by omega) (fun j hj => by
            by_cases e : j = i
            · rw [e]; exact hv
            · exact he j (by omega)) c5
        · exact ⟨25, _, 0, Or.inl rfl, Or.inr ⟨rfl, fun q => hv (q.2 i (by omega))⟩, c4.trans (by
            refine XS.icmpNo X0.here hexec rfl (hb hbytes d21) rfl (ii_eq_f hv) ?_
            refine iconstV X0.here hexec rfl 0 (hb hbytes d24) (by decide) ?_
            exact Steps.refl _)⟩
    obtain ⟨pc, Ls, v, hpc, hv, cz⟩ := loop A.slots.size 0 (by omega) (fun j hj => absurd hj (Nat.not_lt_zero j)) c3
    have nv : narrow .boolean (.int v) = .int v := by rcases hv with ⟨rfl, -⟩ | ⟨rfl, -⟩ <;> rfl
    rcases hpc with rfl | rfl
    · exact ⟨s₁, some (.int v), _, _, _, X0, rfl, rfl, rfl, (fun h => by cases h), ⟨v, rfl, hh0, hv⟩, fun fs hl => cz.trans (X0.ireturnOut hexec hret nv (Or.inr (Or.inl rfl)) (hb hbytes d25) hl)⟩
    · exact ⟨s₁, some (.int v), _, _, _, X0, rfl, rfl, rfl, (fun h => by cases h), ⟨v, rfl, hh0, hv⟩, fun fs hl => cz.trans (X0.ireturnOut hexec hret nv (Or.inr (Or.inl rfl)) (hb hbytes d33) hl)⟩
  · have c3 : Steps p.tables e below (s₁.setTop (entryFrame m #[.ref a, .ref b] 3)) (s₁.setTop (mkF m 35 #[.val (.ref a), .val (.ref b), .unset] [.int 0])) := c2.trans (by
      refine XS.icmpYes X0.here hexec rfl (pc0 := 4) rfl (hb hbytes d4) rfl (ii_ne_t (ne32 a31 b31 hs)) (by decide) rfl ?_
      refine iconstV X0.here hexec rfl 0 (hb hbytes d34) (by decide) ?_
      exact Steps.refl _)
    exact ⟨s₁, some (.int 0), _, _, _, X0, rfl, rfl, rfl, (fun h => by cases h), ⟨0, rfl, hh0, Or.inr ⟨rfl, fun q => hs q.1⟩⟩, fun fs hl => c3.trans (X0.ireturnOut hexec hret rfl (Or.inr (Or.inl rfl)) (hb hbytes d35) hl)⟩
end LEq
theorem Cod.ty {cd : Int32} {n : Nat} {f : Nat → Int32} {V : Cell} (h : Cod cd n f V) : Typed .byte V := fun i v hv => by
  have hi : i < V.slots.size := (Array.getElem?_eq_some_iff.mp hv).1
  rcases h with ⟨-, k1, k2⟩ | ⟨-, k1, k2, -⟩
  · rw [(k2 i (by omega)).1] at hv; cases hv; exact fits_lo8 _
  · rcases Nat.mod_two_eq_zero_or_one i with e | e
    · obtain ⟨j, rfl⟩ : ∃ j, i = 2 * j := ⟨i / 2, by omega⟩
      rw [(k2 j (by omega)).1] at hv; cases hv; exact fits_lo8 _
    · obtain ⟨j, rfl⟩ : ∃ j, i = 2 * j + 1 := ⟨i / 2, by omega⟩
      rw [(k2 j (by omega)).2] at hv; cases hv; exact fits_lo8 _
/-- the same text -/
def SameT (n : Nat) (f : Nat → Int32) (k : Nat) (g : Nat → Int32) : Prop := n = k ∧ ∀ j, j < n → f j = g j
theorem lo8_inj {x y : Int32} (h0 : ¬ x < 0) (h1 : ¬ 255 < x) (k0 : ¬ y < 0) (k1 : ¬ 255 < y) (h : lo8 x = lo8 y) : x = y := by
  rw [← lo8_mask h0 h1, ← lo8_mask k0 k1, h]
/-- arrays coded by one coder are equal just where the texts are -/
theorem Cod.eqv {cd : Int32} {n k : Nat} {f g : Nat → Int32} {V V' : Cell} (h : Cod cd n f V) (h' : Cod cd k g V') (hf : ∀ j, j < n → ¬ f j < 0 ∧ ¬ 65535 < f j) (hg : ∀ j, j < k → ¬ g j < 0 ∧ ¬ 65535 < g j) : EqC V V' ↔ SameT n f k g := by
  have yvv : ∀ {W : Cell} {i : Nat} {x : Int32}, W.slots[i]? = some (.int x) → yv W i = x := fun q => by unfold yv; rw [q]
  rcases h with ⟨rfl, k1, k2⟩ | ⟨rfl, k1, k2, -⟩
  · rcases h' with ⟨-, m1, m2⟩ | ⟨e, -⟩
    · constructor
      · rintro ⟨e1, e2⟩
        refine ⟨by omega, fun j hj => ?_⟩
        have q := e2 j (by omega)
        rw [yvv (k2 j hj).1, yvv (m2 j (by omega)).1] at q
        exact lo8_inj (hf j hj).1 (k2 j hj).2 (hg j (by omega)).1 (m2 j (by omega)).2 q
      · rintro ⟨rfl, e2⟩
        refine ⟨by omega, fun j hj => ?_⟩
        rw [yvv (k2 j (by omega)).1, yvv (m2 j (by omega)).1, e2 j (by omega)]
    · exact absurd e (by decide)
  · rcases h' with ⟨e, -⟩ | ⟨-, m1, m2, -⟩
    · exact absurd e (by decide)
    · constructor
      · rintro ⟨e1, e2⟩
        refine ⟨by omega, fun j hj => ?_⟩
        have q1 := e2 (2 * j) (by omega)
        have q2 := e2 (2 * j + 1) (by omega)
        rw [yvv (k2 j hj).1, yvv (m2 j (by omega)).1] at q1
        rw [yvv (k2 j hj).2, yvv (m2 j (by omega)).2] at q2
        rw [← pair_says (hf j hj).1 (hf j hj).2, ← pair_says (hg j (by omega)).1 (hg j (by omega)).2, q1, q2]
      · rintro ⟨rfl, e2⟩
        refine ⟨by omega, fun i hi => ?_⟩
        rcases Nat.mod_two_eq_zero_or_one i with e | e
        · obtain ⟨j, rfl⟩ : ∃ j, i = 2 * j := ⟨i / 2, by omega⟩
          rw [yvv (k2 j (by omega)).1, yvv (m2 j (by omega)).1, e2 j (by omega)]
        · obtain ⟨j, rfl⟩ : ∃ j, i = 2 * j + 1 := ⟨i / 2, by omega⟩
          rw [yvv (k2 j (by omega)).2, yvv (m2 j (by omega)).2, e2 j (by omega)]
/-- two codings differ: so do the texts -/
theorem Cod.dif {cd cd' : Int32} {n k : Nat} {f g : Nat → Int32} {V V' : Cell} (h : Cod cd n f V) (h' : Cod cd' k g V') (hne : ¬ cd = cd') : ¬ SameT n f k g := by
  rintro ⟨rfl, e⟩
  rcases h with ⟨rfl, -, k2⟩ | ⟨rfl, -, -, j, hj, hw⟩
  · rcases h' with ⟨rfl, -⟩ | ⟨-, -, -, j, hj, hw⟩
    · exact hne rfl
    · exact (k2 j hj).2 (by rw [e j hj]; exact hw)
  · rcases h' with ⟨-, -, m2⟩ | ⟨rfl, -⟩
    · exact (m2 j hj).2 (by rw [← e j hj]; exact hw)
    · exact hne rfl
/-- an object of exactly C is an instance of C -/
theorem cinst {p : Program} {l : Launch} {e : Env} {R : Room} {s : State} {m : MethodId} {args : Array Value} {below : List Frame} {meth : Method} {c : Code} {T : State} {locs : List Loc} {cells slots : Nat} (X : Stand p l e R s m args below meth c T locs cells slots) (hexec : p.tables.exec = Jvm.exec) {own C : String} {index : Nat} (hown : s.vm.findClass own = some m.cls) (hlink : (Cond.classLink own index C).before args s = true) {a : Addr} (hE : Exact C a T)
    {g : JFrame} (hg : g.method = m) {rest : List Value} (hstack : g.stack = .ref a :: rest) (hdg : decode c.code g.pc = .ok (.instanceof index, 3)) :
    ∃ T', Stand p l e R s m args below meth c T' locs cells slots ∧ T'.heap = T.heap ∧ ∀ target, Steps p.tables e below (T'.setTop { g with pc := g.pc + 3, stack := .int 1 :: rest }) target → Steps p.tables e below (T.setTop g) target := by
  obtain ⟨cB, h1, D, h2, h3, h4⟩ := hE
  have h1' : s.vm.findClass C = some cB := by rw [← X.warmed.alike.findClass]; exact h1
  obtain ⟨vm', X', st⟩ := X.instanceofYes hexec hown hlink h2 h4 h1' (by rw [h3]; exact Jvm.Free.SB.assignable_self _ _) hg hstack hdg
  exact ⟨_, X', rfl, st⟩
theorem cself {p : Program} {l : Launch} {e : Env} {R : Room} {s : State} {m : MethodId} {args : Array Value} {below : List Frame} {meth : Method} {c : Code} {T : State} {locs : List Loc} {cells slots : Nat} (X : Stand p l e R s m args below meth c T locs cells slots) (hexec : p.tables.exec = Jvm.exec) {own C : String} {index : Nat} (hown : s.vm.findClass own = some m.cls) (hlink : (Cond.classLink own index C).before args s = true) {a : Addr} (hE : Exact C a T)
    {g : JFrame} (hg : g.method = m) {rest : List Value} (hstack : g.stack = .ref a :: rest) (hdg : decode c.code g.pc = .ok (.checkcast index, 3)) :
    ∃ T', Stand p l e R s m args below meth c T' locs cells slots ∧ T'.heap = T.heap ∧ ∀ target, Steps p.tables e below (T'.setTop { g with pc := g.pc + 3, stack := .ref a :: rest }) target → Steps p.tables e below (T.setTop g) target := by
  obtain ⟨cB, h1, D, h2, h3, h4⟩ := hE
  have h1' : s.vm.findClass C = some cB := by rw [← X.warmed.alike.findClass]; exact h1
  obtain ⟨vm', X', st⟩ := X.checkcastYes hexec hown hlink h2 h4 h1' (by rw [h3]; exact Jvm.Free.SB.assignable_self _ _) hg hstack hdg
  exact ⟨_, X', rfl, fun t h => st t (by rw [← hstack] at h; exact h)⟩
namespace SEq
def yN : MethodName := ⟨"java/lang/String", "equals", "(Ljava/lang/Object;)Z"⟩
abbrev yB : ByteArray := jdk_42_method_66_code
theorem d0 : decode yB 0 = .ok (.aload_n 0, 1) := by decide +kernel
theorem d1 : decode yB 1 = .ok (.aload_n 1, 1) := by decide +kernel
theorem d2 : decode yB 2 = .ok (.if_acmp (.ne) 5, 3) := by decide +kernel
theorem d5 : decode yB 5 = .ok (.iconst 1, 1) := by decide +kernel
theorem d6 : decode yB 6 = .ok (.ireturn, 1) := by decide +kernel
theorem d7 : decode yB 7 = .ok (.aload_n 1, 1) := by decide +kernel
theorem d8 : decode yB 8 = .ok (.instanceof 10, 3) := by decide +kernel
theorem d11 : decode yB 11 = .ok (.ifCond (.eq) 43, 3) := by decide +kernel
theorem d14 : decode yB 14 = .ok (.aload_n 1, 1) := by decide +kernel
theorem d15 : decode yB 15 = .ok (.checkcast 10, 3) := by decide +kernel
theorem d18 : decode yB 18 = .ok (.astore_n 2, 1) := by decide +kernel
theorem d19 : decode yB 19 = .ok (.getstatic 38, 3) := by decide +kernel
theorem d22 : decode yB 22 = .ok (.ifCond (.eq) 14, 3) := by decide +kernel
theorem d25 : decode yB 25 = .ok (.aload_n 0, 1) := by decide +kernel
theorem d26 : decode yB 26 = .ok (.getfield 15, 3) := by decide +kernel
theorem d29 : decode yB 29 = .ok (.aload_n 2, 1) := by decide +kernel
theorem d30 : decode yB 30 = .ok (.getfield 15, 3) := by decide +kernel
theorem d33 : decode yB 33 = .ok (.if_icmp (.ne) 21, 3) := by decide +kernel
theorem d36 : decode yB 36 = .ok (.aload_n 0, 1) := by decide +kernel
theorem d37 : decode yB 37 = .ok (.getfield 9, 3) := by decide +kernel
theorem d40 : decode yB 40 = .ok (.aload_n 2, 1) := by decide +kernel
theorem d41 : decode yB 41 = .ok (.getfield 9, 3) := by decide +kernel
theorem d44 : decode yB 44 = .ok (.invokestatic 541, 3) := by decide +kernel
theorem d47 : decode yB 47 = .ok (.ifCond (.eq) 7, 3) := by decide +kernel
theorem d50 : decode yB 50 = .ok (.iconst 1, 1) := by decide +kernel
theorem d51 : decode yB 51 = .ok (.goto 4, 3) := by decide +kernel
theorem d54 : decode yB 54 = .ok (.iconst 0, 1) := by decide +kernel
theorem d55 : decode yB 55 = .ok (.ireturn, 1) := by decide +kernel
def site : List Cond := [.classLink "java/lang/String" 10 "java/lang/String", .fieldLink "java/lang/String" 38 "java/lang/String" "COMPACT_STRINGS" "Z", .fieldLink "java/lang/String" 15 "java/lang/String" "coder" "B", .fieldLink "java/lang/String" 9 "java/lang/String" "value" "[B", LEq.tab] ++ staticW "java/lang/String" 541 LEq.yN
def tab : Cond := tabOf yN yB 3 (some .boolean) site
def P (x t : Addr) (V : Cell) (cd : Int32) (n : Nat) (f : Nat → Int32) (y t' : Addr) (V' : Cell) (cd' : Int32) (k : Nat) (g : Nat → Int32) (z : Int32) (args : Array Value) (s : State) : Prop := args = #[.ref x, .ref y] ∧ Txt x t V cd n f s ∧ Txt y t' V' cd' k g s ∧ StaticIs s "java/lang/String" "COMPACT_STRINGS" "Z" (.int z) ∧ ¬ z = 0
/-- equals(Object) of two Strings: whether the texts are the same -/
theorem law (l : Launch) (x t : Addr) (V : Cell) (cd : Int32) (n : Nat) (f : Nat → Int32) (y t' : Addr) (V' : Cell) (cd' : Int32) (k : Nat) (g : Nat → Int32) (z : Int32) : Law l yN 2 1 1 14 yB 3 (some .boolean) site (P x t V cd n f y t' V' cd' k g z) (Says01 (SameT n f k g)) [] 0 0 := by
  refine Law.of_walk (plainFor_of_name (by decide +kernel)) (by decide +kernel) (by decide +kernel) (by decide) (fun _ _ h => by rw [h.1]; rfl) (fun _ U U' hal hh h => ⟨h.1, h.2.1.mv hal hh, h.2.2.1.mv hal hh, h.2.2.2.1.there hal hh, h.2.2.2.2⟩) (fun r U U' V V' h1 hal h2 h => Says01.mv r U U' V V' h1 hal h2 h) ?_
  intro p e s m args below meth c s₁ X0 hexec hbytes hml hret hlk hnm hown hh0 W hP
  obtain ⟨rfl, hx, hy, s1, hz⟩ := hP
  have c1 : Steps p.tables e below (s₁.setTop (entryFrame m #[.ref x, .ref y] 3)) (s₁.setTop (mkF m 2 #[.val (.ref x), .val (.ref y), .unset] [.ref y, .ref x])) := Steps.trans (entry rfl) (by
    show Steps p.tables e below (s₁.setTop (mkF m 0 #[.val (.ref x), .val (.ref y), .unset] [])) _
    refine XS.aloadN X0.here hexec rfl (hb hbytes d0) rfl rfl ?_
    refine XS.aloadN X0.here hexec rfl (hb hbytes d1) rfl rfl ?_
    exact Steps.refl _)
  by_cases hxy : x = y
  · have c2 : Steps p.tables e below (s₁.setTop (entryFrame m #[.ref x, .ref y] 3)) (s₁.setTop (mkF m 6 #[.val (.ref x), .val (.ref y), .unset] [.int 1])) := c1.trans (by
      refine acmpNo X0.here hexec rfl (hb hbytes d2) rfl rfl rfl (by simp [acmp, hxy]) ?_
      refine iconstV X0.here hexec rfl 1 (hb hbytes d5) (by decide) ?_
      exact Steps.refl _)
    subst hxy
    have ec : cd = cd' := by
      obtain ⟨D, fd, a1, a2, a3⟩ := hx.2.2.1
      obtain ⟨D', fd', b1, b2, b3⟩ := hy.2.2.1
      cases a1.symm.trans b1
      obtain ⟨q1, q2, q3, q4⟩ := a2.1
      obtain ⟨r1, r2, r3, r4⟩ := b2.1
      cases q4.symm.trans r4
      cases a3.symm.trans b3; rfl
    have et : t = t' := by
      obtain ⟨D, fd, a1, a2, a3⟩ := hx.2.1
      obtain ⟨D', fd', b1, b2, b3⟩ := hy.2.1
      cases a1.symm.trans b1
      obtain ⟨q1, q2, q3, q4⟩ := a2.1
      obtain ⟨r1, r2, r3, r4⟩ := b2.1
      cases q4.symm.trans r4
      cases a3.symm.trans b3; rfl
    subst ec et
    have ev : V = V' := by cases hx.2.2.2.1.1.symm.trans hy.2.2.2.1.1; rfl
    subst ev
    have hs : SameT n f k g := (Cod.eqv hx.2.2.2.2.1 hy.2.2.2.2.1 hx.2.2.2.2.2 hy.2.2.2.2.2).mp ⟨rfl, fun _ _ => rfl⟩
    exact ⟨s₁, some (.int 1), _, _, _, X0, rfl, rfl, rfl, (fun h => by cases h), ⟨1, rfl, hh0, Or.inl ⟨rfl, hs⟩⟩, fun fs hl => c2.trans (X0.ireturnOut hexec hret rfl (Or.inr (Or.inl rfl)) (hb hbytes d6) hl)⟩
  · have c2 : Steps p.tables e below (s₁.setTop (entryFrame m #[.ref x, .ref y] 3)) (s₁.setTop (mkF m 8 #[.val (.ref x), .val (.ref y), .unset] [.ref y])) := c1.trans (by
      refine acmpYes X0.here hexec rfl (pc0 := 2) rfl (hb hbytes d2) rfl rfl rfl (by simp [acmp, hxy]) (by decide) rfl ?_
      refine XS.aloadN X0.here hexec rfl (hb hbytes d7) rfl rfl ?_
      exact Steps.refl _)
    obtain ⟨T3, X3, q3, st3⟩ := cinst X0 hexec hown (wk W (.classLink "java/lang/String" 10 "java/lang/String")) (hy.mv X0.warmed.alike hh0).1 (g := (mkF m 8 #[.val (.ref x), .val (.ref y), .unset] [.ref y])) rfl (rest := []) rfl (hb hbytes d8)
    have hh3 := q3.trans hh0
    have c4 : Steps p.tables e below (s₁.setTop (entryFrame m #[.ref x, .ref y] 3)) (T3.setTop (mkF m 15 #[.val (.ref x), .val (.ref y), .unset] [.ref y])) := (c2.trans (st3 _ (Steps.refl _))).trans (by
      refine XS.ifNo X3.here hexec rfl (hb hbytes d11) rfl (i0_eq_f (by decide)) ?_
      refine XS.aloadN X3.here hexec rfl (hb hbytes d14) rfl rfl ?_
      exact Steps.refl _)
    obtain ⟨T5, X5, q5, st5⟩ := cself X3 hexec hown (wk W (.classLink "java/lang/String" 10 "java/lang/String")) (hy.mv X3.warmed.alike hh3).1 (g := (mkF m 15 #[.val (.ref x), .val (.ref y), .unset] [.ref y])) rfl (rest := []) rfl (hb hbytes d15)
    have hh5 := q5.trans hh3
    have c6 : Steps p.tables e below (s₁.setTop (entryFrame m #[.ref x, .ref y] 3)) (T5.setTop (mkF m 19 #[.val (.ref x), .val (.ref y), .val (.ref y)] [])) := (c4.trans (st5 _ (Steps.refl _))).trans (by
      refine XS.astoreN X5.here hexec rfl (hb hbytes d18) rfl rfl rfl ?_
      exact Steps.refl _)
    obtain ⟨T7, X7, q7, st7⟩ := X5.sget hexec hown (wk W (.fieldLink "java/lang/String" 38 "java/lang/String" "COMPACT_STRINGS" "Z")) s1 (fun _ _ h => by rw [hh5]; exact h) (g := (mkF m 19 #[.val (.ref x), .val (.ref y), .val (.ref y)] [])) rfl (hb hbytes d19)
    have hh7 := q7.trans hh5
    have c8 : Steps p.tables e below (s₁.setTop (entryFrame m #[.ref x, .ref y] 3)) (T7.setTop (mkF m 26 #[.val (.ref x), .val (.ref y), .val (.ref y)] [.ref x])) := (c6.trans (st7 _ (Steps.refl _))).trans (by
      refine XS.ifNo X7.here hexec rfl (hb hbytes d22) rfl (i0_eq_f hz) ?_
      refine XS.aloadN X7.here hexec rfl (hb hbytes d25) rfl rfl ?_
      exact Steps.refl _)
    obtain ⟨T9, X9, q9, st9⟩ := X7.hget hexec hown (wk W (.fieldLink "java/lang/String" 15 "java/lang/String" "coder" "B")) (hx.mv X7.warmed.alike hh7).2.2.1 (g := (mkF m 26 #[.val (.ref x), .val (.ref y), .val (.ref y)] [.ref x])) rfl (rest := []) rfl (hb hbytes d26)
    have hh9 := q9.trans hh7
    have c10 : Steps p.tables e below (s₁.setTop (entryFrame m #[.ref x, .ref y] 3)) (T9.setTop (mkF m 30 #[.val (.ref x), .val (.ref y), .val (.ref y)] [.ref y, .int cd])) := (c8.trans (st9 _ (Steps.refl _))).trans (by
      refine XS.aloadN X9.here hexec rfl (hb hbytes d29) rfl rfl ?_
      exact Steps.refl _)
    obtain ⟨T11, X11, q11, st11⟩ := X9.hget hexec hown (wk W (.fieldLink "java/lang/String" 15 "java/lang/String" "coder" "B")) (hy.mv X9.warmed.alike hh9).2.2.1 (g := (mkF m 30 #[.val (.ref x), .val (.ref y), .val (.ref y)] [.ref y, .int cd])) rfl (rest := [.int cd]) rfl (hb hbytes d30)
    have hh11 := q11.trans hh9
    have c12 : Steps p.tables e below (s₁.setTop (entryFrame m #[.ref x, .ref y] 3)) (T11.setTop (mkF m 33 #[.val (.ref x), .val (.ref y), .val (.ref y)] [.int cd', .int cd])) := c10.trans (st11 _ (Steps.refl _))
    by_cases hcd : cd = cd'
    · subst hcd
      have c13 : Steps p.tables e below (s₁.setTop (entryFrame m #[.ref x, .ref y] 3)) (T11.setTop (mkF m 37 #[.val (.ref x), .val (.ref y), .val (.ref y)] [.ref x])) := c12.trans (by
        refine XS.icmpNo X11.here hexec rfl (hb hbytes d33) rfl (ii_ne_f rfl) ?_
        refine XS.aloadN X11.here hexec rfl (hb hbytes d36) rfl rfl ?_
        exact Steps.refl _)
      obtain ⟨T14, X14, q14, st14⟩ := X11.hget hexec hown (wk W (.fieldLink "java/lang/String" 9 "java/lang/String" "value" "[B")) (hx.mv X11.warmed.alike hh11).2.1 (g := (mkF m 37 #[.val (.ref x), .val (.ref y), .val (.ref y)] [.ref x])) rfl (rest := []) rfl (hb hbytes d37)
      have hh14 := q14.trans hh11
      have c15 : Steps p.tables e below (s₁.setTop (entryFrame m #[.ref x, .ref y] 3)) (T14.setTop (mkF m 41 #[.val (.ref x), .val (.ref y), .val (.ref y)] [.ref y, .ref t])) := (c13.trans (st14 _ (Steps.refl _))).trans (by
        refine XS.aloadN X14.here hexec rfl (hb hbytes d40) rfl rfl ?_
        exact Steps.refl _)
      obtain ⟨T16, X16, q16, st16⟩ := X14.hget hexec hown (wk W (.fieldLink "java/lang/String" 9 "java/lang/String" "value" "[B")) (hy.mv X14.warmed.alike hh14).2.1 (g := (mkF m 41 #[.val (.ref x), .val (.ref y), .val (.ref y)] [.ref y, .ref t])) rfl (rest := [.ref t]) rfl (hb hbytes d41)
      have hh16 := q16.trans hh14
      have c17 : Steps p.tables e below (s₁.setTop (entryFrame m #[.ref x, .ref y] 3)) (T16.setTop (mkF m 44 #[.val (.ref x), .val (.ref y), .val (.ref y)] [.ref t', .ref t])) := c15.trans (st16 _ (Steps.refl _))
      obtain ⟨v18, T18, X18, E18, g18⟩ := X16.callS hexec (LEq.law l t V t' V') hown (wks W (staticW "java/lang/String" 541 LEq.yN)) (wk W LEq.tab) (W := 0) (Nat.le_of_ble_eq_true rfl) (Nat.le_of_ble_eq_true rfl) (Nat.le_refl _) (Nat.le_refl _) (g := (mkF m 44 #[.val (.ref x), .val (.ref y), .val (.ref y)] [.ref t', .ref t])) rfl (by rw [hml]; rfl) c17 (argsL := [.ref t, .ref t']) (rest := []) rfl rfl (by show 2 * 0 + 0 ≤ _; decide) (hb hbytes d44) (⟨rfl, hx.2.2.2.1.mv X16.warmed.alike hh16, hx.2.2.2.2.1.ty, hy.2.2.2.1.mv X16.warmed.alike hh16, hy.2.2.2.2.1.ty⟩)
      obtain ⟨v, rfl, q18, hv⟩ := E18
      have iff := Cod.eqv hx.2.2.2.2.1 hy.2.2.2.2.1 hx.2.2.2.2.2 hy.2.2.2.2.2
      rcases hv with ⟨rfl, he⟩ | ⟨rfl, he⟩
      · have c19 : Steps p.tables e below (s₁.setTop (entryFrame m #[.ref x, .ref y] 3)) (T18.setTop (mkF m 55 #[.val (.ref x), .val (.ref y), .val (.ref y)] [.int 1])) := Steps.trans g18 (by
          refine XS.ifNo X18.here hexec rfl (hb hbytes d47) rfl (i0_eq_f (by decide)) ?_
          refine iconstV X18.here hexec rfl 1 (hb hbytes d50) (by decide) ?_
          refine XS.goto X18.here hexec rfl (pc0 := 51) rfl (hb hbytes d51) (by decide) rfl ?_
          exact Steps.refl _)
        exact ⟨T18, some (.int 1), _, _, _, X18, rfl, rfl, rfl, (fun h => by cases h), ⟨1, rfl, q18.trans hh16, Or.inl ⟨rfl, iff.mp he⟩⟩, fun fs hl => c19.trans (X18.ireturnOut hexec hret rfl (Or.inr (Or.inl rfl)) (hb hbytes d55) hl)⟩
      · have c19 : Steps p.tables e below (s₁.setTop (entryFrame m #[.ref x, .ref y] 3)) (T18.setTop (mkF m 55 #[.val (.ref x), .val (.ref y), .val (.ref y)] [.int 0])) := Steps.trans g18 (by
          refine XS.ifYes X18.here hexec rfl (pc0 := 47) rfl (hb hbytes d47) rfl (i0_eq_t rfl) (by decide) rfl ?_
          refine iconstV X18.here hexec rfl 0 (hb hbytes d54) (by decide) ?_
          exact Steps.refl _)
        exact ⟨T18, some (.int 0), _, _, _, X18, rfl, rfl, rfl, (fun h => by cases h), ⟨0, rfl, q18.trans hh16, Or.inr ⟨rfl, fun q => he (iff.mpr q)⟩⟩, fun fs hl => c19.trans (X18.ireturnOut hexec hret rfl (Or.inr (Or.inl rfl)) (hb hbytes d55) hl)⟩
    · have c13 : Steps p.tables e below (s₁.setTop (entryFrame m #[.ref x, .ref y] 3)) (T11.setTop (mkF m 55 #[.val (.ref x), .val (.ref y), .val (.ref y)] [.int 0])) := c12.trans (by
        refine XS.icmpYes X11.here hexec rfl (pc0 := 33) rfl (hb hbytes d33) rfl (ii_ne_t hcd) (by decide) rfl ?_
        refine iconstV X11.here hexec rfl 0 (hb hbytes d54) (by decide) ?_
        exact Steps.refl _)
      exact ⟨T11, some (.int 0), _, _, _, X11, rfl, rfl, rfl, (fun h => by cases h), ⟨0, rfl, hh11, Or.inr ⟨rfl, Cod.dif hx.2.2.2.2.1 hy.2.2.2.2.1 hcd⟩⟩, fun fs hl => c13.trans (X11.ireturnOut hexec hret rfl (Or.inr (Or.inl rfl)) (hb hbytes d55) hl)⟩
theorem pays {l : Launch} {R : Room} {p : Program} {e : Env} {below : List Frame} {s : State} {sargs : Array Value} {len W : Nat} (x t : Addr) (V : Cell) (cd : Int32) (n : Nat) (f : Nat → Int32) (y t' : Addr) (V' : Cell) (cd' : Int32) (k : Nat) (g : Nat → Int32) (z : Int32) (htab : tab.before sargs s = true) (hfr : 2 ≤ R.frames) (hlo : W + 28 ≤ R.locals) :
    Back l R p e below s sargs yN len W (fun A₁ a₁ => A₁.cells + 0 ≤ R.cells ∧ A₁.slots + 0 ≤ R.slots ∧ P x t V cd n f y t' V' cd' k g z a₁ A₁.U) (fun A₁ _ v₁ B₁ => Says01 (SameT n f k g) v₁ A₁.U B₁.U ∧ B₁.locs = A₁.locs ++ [] ∧ B₁.cells = A₁.cells + 0 ∧ B₁.slots = A₁.slots + 0) :=
  (law l x t V cd n f y t' V' cd' k g z).pays htab hfr (by omega)
end SEq
end StrChars
namespace StrChars.Road
open Jvm Sem ClassFile Op Lib Jvm.Stand Jvm.Free Jvm.Free.XT
open Jvm.Lib.Cold (StaticIs)
/-- the words of String.equals(Object) -/
abbrev wordsEq : List Jvm.Cond := [.code SEq.yN SEq.yB 3 (some .boolean), .initialized ST, .classLink ST 10 ST, .fieldLink ST 38 ST "COMPACT_STRINGS" "Z", .fieldLink ST 15 ST "coder" "B", .fieldLink ST 9 ST "value" "[B", .methodLink ST 541 LEq.yN, .static LEq.yN, .code LEq.yN LEq.yB 3 (some .boolean), .initialized "java/lang/StringLatin1"]
theorem tabEq_of {a : Array Value} {s : State} (h : ∀ w ∈ wordsEq, w.before a s = true) : SEq.tab.before a s = true := by
  have hl : LEq.tab.before a s = true := unparts (wk h (.code LEq.yN LEq.yB 3 (some .boolean))) (wks h (.initialized LEq.yN.cls :: LEq.site))
  have q := consq hl h
  exact unparts (wk q (.code SEq.yN SEq.yB 3 (some .boolean))) (wks q (.initialized SEq.yN.cls :: SEq.site))
theorem movedEq {Z s : State} {a0 args : Array Value} (hZ : Z.Warmed39 s.vm) (hw : ∀ d ∈ wordsEq, d.before a0 Z = true) : ∀ d ∈ wordsEq, d.before args s = true := fun d hd => by
  have t : ∀ d ∈ wordsEq, (d.onTables && d.keepsFace) = true := by decide +kernel
  exact RoadKit.mv hZ (hw d hd) (t d hd)
/-- the road's facts of a String, as the laws ask it -/
theorem txt_of {Z U : State} {a0 : Array Value} {kI : Nat} (wi : (Jvm.Cond.instantiable ST kI).before a0 Z = true) (al : Z.vm.Alike U.vm) {x t : Addr} {kb : ClassId} {cs : List Int32} {cd N2 : Int32} {vs : List Value} (E : RoadKit.Exa Z U.heap x ST) (V : RoadKit.Fld Z U.heap x ST "value" "[B" (.ref t)) (C : RoadKit.Fld Z U.heap x ST "coder" "B" (.int cd)) (K : RoadKit.Arv Z U.heap t kb .byte N2 vs (.int 0)) (hc : CodA cs cd N2 vs) (hb : ∀ c ∈ cs, ¬ c < 0 ∧ ¬ (65535 : Int32) < c) (l2 : cs.length ≤ 4000) :
    ∃ A, Txt x t A cd cs.length (fun j => cs.getD j 0) U := by
  obtain ⟨A, K1, K2, K3, K4, K5, K6⟩ := K
  have hcod := hc.cod (by omega) K3 K5
  obtain ⟨D, fV, fC, hB, F1, F2, g1, g2, -, -⟩ := strObj wi al E V C
  exact ⟨A, ⟨_, hB.2.2.1, D, hB.1, rfl, by cases q : D.vm <;> first | rfl | exact absurd q (hB.2.1.2 _)⟩, Has.of hB F1 g1, Has.of hB F2 g2, ⟨K1.1, State.isArrayOf_alike al K1.2.1, K1.2.2, by rcases hcod with ⟨-, q, -⟩ | ⟨-, q, -⟩ <;> omega⟩, hcod, fun j hj => by
    have e : cs.getD j 0 = cs[j] := by simp [List.getD_eq_getElem?_getD, hj]
    show ¬ cs.getD j 0 < 0 ∧ ¬ 65535 < cs.getD j 0
    rw [e]; exact hb _ (List.getElem_mem _)⟩
theorem same_list (cs ds : List Int32) : SameT cs.length (fun j => cs.getD j 0) ds.length (fun j => ds.getD j 0) ↔ cs = ds := by
  constructor
  · rintro ⟨e, q⟩
    refine List.ext_getElem e fun j h1 h2 => ?_
    have := q j h1
    simpa [List.getD_eq_getElem?_getD, h1, h2] using this
  · rintro rfl
    exact ⟨rfl, fun _ _ => rfl⟩
/-- **equals(Object) OF TWO SUCH STRINGS**: 1 just where the chars are the same -/
theorem eqW {p : Program} {l : Launch} {e : Env} {R : Room} {s : State} {args : Array Value} {below : List Frame} {len W : Nat} {Z : State} {a0 : Array Value} {h : Heap} (hZ : Z.Warmed39 s.vm) (hw : ∀ d ∈ wordsEq, d.before a0 Z = true) {kI : Nat} (wi : (Jvm.Cond.instantiable ST kI).before a0 Z = true)
    {x t : Addr} {kb : ClassId} {cs : List Int32} {cd N2 : Int32} {vs : List Value} (E : RoadKit.Exa Z h x ST) (V : RoadKit.Fld Z h x ST "value" "[B" (.ref t)) (C : RoadKit.Fld Z h x ST "coder" "B" (.int cd)) (K : RoadKit.Arv Z h t kb .byte N2 vs (.int 0)) (hc : CodA cs cd N2 vs) (hb : ∀ c ∈ cs, ¬ c < 0 ∧ ¬ (65535 : Int32) < c) (l2 : cs.length ≤ 4000)
    {y t' : Addr} {kb' : ClassId} {ds : List Int32} {cd' N2' : Int32} {vs' : List Value} (E' : RoadKit.Exa Z h y ST) (V' : RoadKit.Fld Z h y ST "value" "[B" (.ref t')) (C' : RoadKit.Fld Z h y ST "coder" "B" (.int cd')) (K' : RoadKit.Arv Z h t' kb' .byte N2' vs' (.int 0)) (hc' : CodA ds cd' N2' vs') (hb' : ∀ c ∈ ds, ¬ c < 0 ∧ ¬ (65535 : Int32) < c) (l2' : ds.length ≤ 4000)
    {z : Int32} (S : RoadKit.Sta Z h ST "COMPACT_STRINGS" "Z" (.int z)) (hz : ¬ z = 0) (hfr : 2 ≤ R.frames) (hlo : W + 28 ≤ R.locals) :
    Back l R p e below s args (⟨"java/lang/String", "equals", "(Ljava/lang/Object;)Z"⟩ : MethodName) len W (fun P a => a = #[.ref x, .ref y] ∧ P.U.heap = h ∧ P.cells + 0 ≤ R.cells ∧ P.slots + 0 ≤ R.slots)
      (fun P _ v B => ∃ L, (((v = some (.int 1) ∧ cs = ds) ∨ (v = some (.int 0) ∧ ¬ cs = ds)) ∧ L = [] ∧ B.U.heap = h) ∧ B.locs = P.locs ++ L ∧ B.cells = P.cells + 0 ∧ B.slots = P.slots + 0) := by
  intro m meth c P g ig mk a X hg hsize hdg hW hn hp'
  obtain ⟨rfl, rfl, r1, r2⟩ := hp'
  have al : Z.vm.Alike P.U.vm := hZ.alike.trans X.warmed.alike
  obtain ⟨A, hx⟩ := txt_of wi al E V C K hc hb l2
  obtain ⟨A', hy⟩ := txt_of wi al E' V' C' K' hc' hb' l2'
  obtain ⟨v, B, X', ⟨⟨w, hv, hh, hq⟩, hl, hk, hs⟩, st⟩ := SEq.pays x t A cd cs.length (fun j => cs.getD j 0) y t' A' cd' ds.length (fun j => ds.getD j 0) z (tabEq_of (movedEq hZ hw)) hfr hlo m meth c P g ig mk _ X hg hsize hdg hW hn ⟨r1, r2, rfl, hx, hy, sta_is al S, hz⟩
  refine ⟨v, B, X', ⟨[], ⟨?_, rfl, hh⟩, hl, hk, hs⟩, st⟩
  rcases hq with ⟨rfl, q⟩ | ⟨rfl, q⟩
  · exact Or.inl ⟨hv, (same_list cs ds).mp q⟩
  · exact Or.inr ⟨hv, fun e => q ((same_list cs ds).mpr e)⟩
end StrChars.Road
namespace StrChars.Road
open Jvm Sem ClassFile Op Lib Jvm.Stand Jvm.Free Jvm.Free.XT
open Jvm.Lib.Cold (StaticIs)
/-- what backV says of its String, as the contracts of this text ask it: cs's low bytes, coder 0 -/
theorem codOf {cs : List Int32} {n : Nat} (hn : cs.length = n) (hb : ∀ c ∈ cs, ¬ 255 < c) : CodA cs 0 (Int32.ofNat n) ((cs.map lo8).map Value.int) := Or.inl ⟨rfl, by rw [hn], by simp [List.map_map, Function.comp_def], hb⟩
end StrChars.Road
end Jvm.Pilot.@@N@@
namespace Jvm.Pilot.@@N@@
open Jvm Jvm.ClassFile Sem Op Lib Jvm.Free Jvm.Stand Jvm.LawKit Jvm.RoadKit Bundle Jvm.Pilot.@@N@@.Jvm.D
namespace Ow
/-! A small logic of walks: Wq says: from every state that stands at pc with these locals, this stack and this heap, the body runs to its end and Post holds there. -/
def Cx (l : Launch) (nw : Bool) (Z : State) (EL : List (String × Nat)) (a0 : Array Value) (n0 : Nat) (y : MethodName) (B : ByteArray) (ml : Nat) (ret : Option FieldType) (R : Room) (h0 : Heap) (fs : List Addr) (h : Heap) (ce sl : Nat)
    (p : Program) (e : Env) (s : State) (m : MethodId) (args : Array Value) (below : List Frame) (meth : Method) (c : Code) (T : State) (locs : List Loc) (vm : Vm) (k : Nat) : Prop :=
  (p.tables.exec = Jvm.exec ∧ c.code = B ∧ c.maxLocals = ml ∧ meth.sig.returnType = ret ∧ meth.locks = false ∧ meth.name = y.name ∧ vm.findClass y.cls = some m.cls ∧ s.heap = h0) ∧
  (Z.Warmed39 vm ∧ (∀ d ∈ tables_1, d.before a0 Z = true) ∧ EW Z a0 EL ∧ (nw = true → vm = s.vm ∧ EL = [])) ∧
  Stand p l e R (s.setVm vm) m args below meth c T locs ce sl ∧ T.heap = h ∧ (Fr n0 locs ∧ Old Z n0 h) ∧ (s.Since vm k ∧ k ≤ h.size) ∧ CHr Z EL s.vm h0 vm h ∧ ∀ x ∈ fs, n0 ≤ x ∧ x < h.size ∧ Safe Z EL vm h x
def Fn (nw : Bool) (Z : State) (EL : List (String × Nat)) (n0 : Nat) (R : Room) (h0 : Heap) (Post : Option Value → Heap → Prop) (p : Program) (e : Env) (s : State) (below : List Frame) (t : State) : Prop :=
  ∃ s₂ o, Steps p.tables e below t s₂ ∧ s₂.status = .running ∧ Ended s₂ below o ∧ ∃ v L, o = .returned v ∧ Post v s₂.heap ∧ (Fr n0 L ∧ Old Z n0 s₂.heap) ∧ CHr Z EL s.vm h0 s₂.vm s₂.heap ∧ ReturnedEndW s o s₂ L R.cells R.slots ∧ (nw = true → s.WarmedH s₂.vm)
def Wq (l : Launch) (nw : Bool) (Z : State) (EL : List (String × Nat)) (a0 : Array Value) (n0 : Nat) (y : MethodName) (B : ByteArray) (ml : Nat) (ret : Option FieldType) (R : Room) (h0 : Heap) (Post : Option Value → Heap → Prop) (fs : List Addr) (h : Heap) (ce sl pc : Nat) (L : Array Slot) (S : List Value) : Prop :=
  ∀ (p : Program) (e : Env) (s : State) (m : MethodId) (args : Array Value) (below : List Frame) (meth : Method) (c : Code) (T : State) (locs : List Loc) (vm : Vm) (k : Nat),
    Cx l nw Z EL a0 n0 y B ml ret R h0 fs h ce sl p e s m args below meth c T locs vm k → Fn nw Z EL n0 R h0 Post p e s below (T.setTop (mkF m pc L S))
section Rules
variable {l : Launch} {nw : Bool} {Z : State} {EL : List (String × Nat)} {a0 : Array Value} {n0 : Nat} {y : MethodName} {B : ByteArray} {ml : Nat} {ret : Option FieldType} {R : Room} {h0 : Heap} {Post : Option Value → Heap → Prop} {fs : List Addr} {h : Heap} {ce sl pc pc' : Nat} {L : Array Slot} {S : List Value}
theorem Fn.st {p : Program} {e : Env} {s : State} {below : List Frame} {t t' : State} (st : ∀ u, Steps p.tables e below t' u → Steps p.tables e below t u) (K : Fn nw Z EL n0 R h0 Post p e s below t') : Fn nw Z EL n0 R h0 Post p e s below t := by
  obtain ⟨s₂, o, h1, r⟩ := K
  exact ⟨s₂, o, st _ h1, r⟩
theorem pu {L' : Array Slot} {S' : List Value} (st : ∀ {p : Program} {e : Env} {m : MethodId} {below : List Frame} {c : Code} {T t : State}, At T m c below → p.tables.exec = Jvm.exec → c.code = B → Steps p.tables e below (T.setTop (mkF m pc' L' S')) t → Steps p.tables e below (T.setTop (mkF m pc L S)) t)
    (K : Wq l nw Z EL a0 n0 y B ml ret R h0 Post fs h ce sl pc' L' S') : Wq l nw Z EL a0 n0 y B ml ret R h0 Post fs h ce sl pc L S := fun p e s m args below meth c T locs vm k C =>
  (K p e s m args below meth c T locs vm k C).st fun u q => st C.2.2.1.here C.1.1 C.1.2.1 q
/-- cells and slots may be counted higher -/
theorem more {ce' sl' : Nat} (hc : ce ≤ ce') (hs : sl ≤ sl') (K : Wq l nw Z EL a0 n0 y B ml ret R h0 Post fs h ce' sl' pc L S) : Wq l nw Z EL a0 n0 y B ml ret R h0 Post fs h ce sl pc L S := fun p e s m args below meth c T locs vm k C =>
  K p e s m args below meth c T locs vm k ⟨C.1, C.2.1, C.2.2.1.more hc hs, C.2.2.2⟩
theorem fewer {fs' : List Addr} (hf : ∀ x ∈ fs', x ∈ fs) (K : Wq l nw Z EL a0 n0 y B ml ret R h0 Post fs' h ce sl pc L S) : Wq l nw Z EL a0 n0 y B ml ret R h0 Post fs h ce sl pc L S := fun p e s m args below meth c T locs vm k C =>
  K p e s m args below meth c T locs vm k ⟨C.1, C.2.1, C.2.2.1, C.2.2.2.1, C.2.2.2.2.1, C.2.2.2.2.2.1, C.2.2.2.2.2.2.1, fun x hx => C.2.2.2.2.2.2.2 x (hf x hx)⟩
theorem at' {L' : Array Slot} {S' : List Value} {ce' sl' : Nat} (e4 : ce = ce') (e5 : sl = sl') (e1 : pc = pc') (e2 : L = L') (e3 : S = S') (K : Wq l nw Z EL a0 n0 y B ml ret R h0 Post fs h ce' sl' pc' L' S') : Wq l nw Z EL a0 n0 y B ml ret R h0 Post fs h ce sl pc L S := by subst e1 e2 e3 e4 e5; exact K
/-- the words of the sheet, at hand in the walk -/
theorem words (K : (∀ d ∈ tables_1, d.before a0 Z = true) → Wq l nw Z EL a0 n0 y B ml ret R h0 Post fs h ce sl pc L S) : Wq l nw Z EL a0 n0 y B ml ret R h0 Post fs h ce sl pc L S := fun p e s m args below meth c T locs vm k C => K C.2.1.2.1 p e s m args below meth c T locs vm k C
theorem ews (K : (∀ d ∈ tables_1, d.before a0 Z = true) → EW Z a0 EL → Wq l nw Z EL a0 n0 y B ml ret R h0 Post fs h ce sl pc L S) : Wq l nw Z EL a0 n0 y B ml ret R h0 Post fs h ce sl pc L S := fun p e s m args below meth c T locs vm k C => K C.2.1.2.1 C.2.1.2.2.1 p e s m args below meth c T locs vm k C
theorem fsz (K : (∀ x ∈ fs, n0 ≤ x ∧ x < h.size) → Wq l nw Z EL a0 n0 y B ml ret R h0 Post fs h ce sl pc L S) : Wq l nw Z EL a0 n0 y B ml ret R h0 Post fs h ce sl pc L S := fun p e s m args below meth c T locs vm k C => K (fun x q => ⟨(C.2.2.2.2.2.2.2 x q).1, (C.2.2.2.2.2.2.2 x q).2.1⟩) p e s m args below meth c T locs vm k C
theorem old (K : Old Z n0 h → h0.size ≤ h.size → Wq l nw Z EL a0 n0 y B ml ret R h0 Post fs h ce sl pc L S) : Wq l nw Z EL a0 n0 y B ml ret R h0 Post fs h ce sl pc L S := fun p e s m args below meth c T locs vm k C => K C.2.2.2.2.1.2 C.2.2.2.2.2.2.1.2.1 p e s m args below meth c T locs vm k C
theorem iload {j : Nat} {v : Int32} (hd : decode B pc = .ok (.iload j, 2)) (hl : L[j]? = some (.val (.int v))) (hp : pc + 2 = pc') (K : Wq l nw Z EL a0 n0 y B ml ret R h0 Post fs h ce sl pc' L (.int v :: S)) : Wq l nw Z EL a0 n0 y B ml ret R h0 Post fs h ce sl pc L S :=
  pu (fun h hx hb q => by subst hp; exact XS.iload h hx rfl (Jvm.hb hb hd) hl q) K
theorem iloadN {j : Fin 4} {v : Int32} (hd : decode B pc = .ok (.iload_n j, 1)) (hl : L[j.val]? = some (.val (.int v))) (hp : pc + 1 = pc') (K : Wq l nw Z EL a0 n0 y B ml ret R h0 Post fs h ce sl pc' L (.int v :: S)) : Wq l nw Z EL a0 n0 y B ml ret R h0 Post fs h ce sl pc L S :=
  pu (fun h hx hb q => by subst hp; exact XS.iloadN h hx rfl (Jvm.hb hb hd) hl q) K
theorem lload {j : Nat} {v : Int64} (hd : decode B pc = .ok (.lload j, 2)) (hl : L[j]? = some (.val (.long v))) (hp : pc + 2 = pc') (K : Wq l nw Z EL a0 n0 y B ml ret R h0 Post fs h ce sl pc' L (.long v :: S)) : Wq l nw Z EL a0 n0 y B ml ret R h0 Post fs h ce sl pc L S :=
  pu (fun h hx hb q => by subst hp; exact XS.lload h hx rfl (Jvm.hb hb hd) hl q) K
theorem lloadN {j : Fin 4} {v : Int64} (hd : decode B pc = .ok (.lload_n j, 1)) (hl : L[j.val]? = some (.val (.long v))) (hp : pc + 1 = pc') (K : Wq l nw Z EL a0 n0 y B ml ret R h0 Post fs h ce sl pc' L (.long v :: S)) : Wq l nw Z EL a0 n0 y B ml ret R h0 Post fs h ce sl pc L S :=
  pu (fun h hx hb q => by subst hp; exact XS.lloadN h hx rfl (Jvm.hb hb hd) hl q) K
theorem dload {j : Nat} {v : UInt64} (hd : decode B pc = .ok (.dload j, 2)) (hl : L[j]? = some (.val (.double v))) (hp : pc + 2 = pc') (K : Wq l nw Z EL a0 n0 y B ml ret R h0 Post fs h ce sl pc' L (.double v :: S)) : Wq l nw Z EL a0 n0 y B ml ret R h0 Post fs h ce sl pc L S :=
  pu (fun h hx hb q => by subst hp; exact Jvm.Free.XS.dload h hx rfl (Jvm.hb hb hd) hl q) K
theorem dloadN {j : Fin 4} {v : UInt64} (hd : decode B pc = .ok (.dload_n j, 1)) (hl : L[j.val]? = some (.val (.double v))) (hp : pc + 1 = pc') (K : Wq l nw Z EL a0 n0 y B ml ret R h0 Post fs h ce sl pc' L (.double v :: S)) : Wq l nw Z EL a0 n0 y B ml ret R h0 Post fs h ce sl pc L S :=
  pu (fun h hx hb q => by subst hp; exact XS.dloadN h hx rfl (Jvm.hb hb hd) hl q) K
theorem aload {j : Nat} {v : Value} (hd : decode B pc = .ok (.aload j, 2)) (hl : L[j]? = some (.val v)) (hv : v.isRef = true) (hp : pc + 2 = pc') (K : Wq l nw Z EL a0 n0 y B ml ret R h0 Post fs h ce sl pc' L (v :: S)) : Wq l nw Z EL a0 n0 y B ml ret R h0 Post fs h ce sl pc L S :=
  pu (fun h hx hb q => by subst hp; exact XS.aload h hx rfl (Jvm.hb hb hd) hl hv q) K
theorem aloadN {j : Fin 4} {v : Value} (hd : decode B pc = .ok (.aload_n j, 1)) (hl : L[j.val]? = some (.val v)) (hv : v.isRef = true) (hp : pc + 1 = pc') (K : Wq l nw Z EL a0 n0 y B ml ret R h0 Post fs h ce sl pc' L (v :: S)) : Wq l nw Z EL a0 n0 y B ml ret R h0 Post fs h ce sl pc L S :=
  pu (fun h hx hb q => by subst hp; exact XS.aloadN h hx rfl (Jvm.hb hb hd) hl hv q) K
theorem istore {j : Nat} {v : Int32} {L' : Array Slot} (hd : decode B pc = .ok (.istore j, 2)) (hl : storeLocals L j (.int v) = some L') (hp : pc + 2 = pc') (K : Wq l nw Z EL a0 n0 y B ml ret R h0 Post fs h ce sl pc' L' S) : Wq l nw Z EL a0 n0 y B ml ret R h0 Post fs h ce sl pc L (.int v :: S) :=
  pu (fun h hx hb q => by subst hp; exact XS.istore h hx rfl (Jvm.hb hb hd) rfl hl q) K
theorem istoreN {j : Fin 4} {v : Int32} {L' : Array Slot} (hd : decode B pc = .ok (.istore_n j, 1)) (hl : storeLocals L j.val (.int v) = some L') (hp : pc + 1 = pc') (K : Wq l nw Z EL a0 n0 y B ml ret R h0 Post fs h ce sl pc' L' S) : Wq l nw Z EL a0 n0 y B ml ret R h0 Post fs h ce sl pc L (.int v :: S) :=
  pu (fun h hx hb q => by subst hp; exact XS.istoreN h hx rfl (Jvm.hb hb hd) rfl hl q) K
theorem lstore {j : Nat} {v : Int64} {L' : Array Slot} (hd : decode B pc = .ok (.lstore j, 2)) (hl : storeLocals L j (.long v) = some L') (hp : pc + 2 = pc') (K : Wq l nw Z EL a0 n0 y B ml ret R h0 Post fs h ce sl pc' L' S) : Wq l nw Z EL a0 n0 y B ml ret R h0 Post fs h ce sl pc L (.long v :: S) :=
  pu (fun h hx hb q => by subst hp; exact XS.lstore h hx rfl (Jvm.hb hb hd) rfl hl q) K
theorem lstoreN {j : Fin 4} {v : Int64} {L' : Array Slot} (hd : decode B pc = .ok (.lstore_n j, 1)) (hl : storeLocals L j.val (.long v) = some L') (hp : pc + 1 = pc') (K : Wq l nw Z EL a0 n0 y B ml ret R h0 Post fs h ce sl pc' L' S) : Wq l nw Z EL a0 n0 y B ml ret R h0 Post fs h ce sl pc L (.long v :: S) :=
  pu (fun h hx hb q => by subst hp; exact XS.lstoreN h hx rfl (Jvm.hb hb hd) rfl hl q) K
theorem dstore {j : Nat} {v : UInt64} {L' : Array Slot} (hd : decode B pc = .ok (.dstore j, 2)) (hl : storeLocals L j (.double v) = some L') (hp : pc + 2 = pc') (K : Wq l nw Z EL a0 n0 y B ml ret R h0 Post fs h ce sl pc' L' S) : Wq l nw Z EL a0 n0 y B ml ret R h0 Post fs h ce sl pc L (.double v :: S) :=
  pu (fun h hx hb q => by subst hp; exact XS.dstore h hx rfl (Jvm.hb hb hd) rfl hl q) K
theorem dstoreN {j : Fin 4} {v : UInt64} {L' : Array Slot} (hd : decode B pc = .ok (.dstore_n j, 1)) (hl : storeLocals L j.val (.double v) = some L') (hp : pc + 1 = pc') (K : Wq l nw Z EL a0 n0 y B ml ret R h0 Post fs h ce sl pc' L' S) : Wq l nw Z EL a0 n0 y B ml ret R h0 Post fs h ce sl pc L (.double v :: S) :=
  pu (fun h hx hb q => by subst hp; exact XS.dstoreN h hx rfl (Jvm.hb hb hd) rfl hl q) K
theorem astore {j : Nat} {v : Value} {L' : Array Slot} (hd : decode B pc = .ok (.astore j, 2)) (hv : v.isRef = true) (hl : storeLocals L j v = some L') (hp : pc + 2 = pc') (K : Wq l nw Z EL a0 n0 y B ml ret R h0 Post fs h ce sl pc' L' S) : Wq l nw Z EL a0 n0 y B ml ret R h0 Post fs h ce sl pc L (v :: S) :=
  pu (fun h hx hb q => by subst hp; exact XS.astore h hx rfl (Jvm.hb hb hd) rfl hv hl q) K
theorem astoreN {j : Fin 4} {v : Value} {L' : Array Slot} (hd : decode B pc = .ok (.astore_n j, 1)) (hv : v.isRef = true) (hl : storeLocals L j.val v = some L') (hp : pc + 1 = pc') (K : Wq l nw Z EL a0 n0 y B ml ret R h0 Post fs h ce sl pc' L' S) : Wq l nw Z EL a0 n0 y B ml ret R h0 Post fs h ce sl pc L (v :: S) :=
  pu (fun h hx hb q => by subst hp; exact XS.astoreN h hx rfl (Jvm.hb hb hd) rfl hv hl q) K
theorem iconst {i : Int} {v : Int32} (hd : decode B pc = .ok (.iconst i, 1)) (hv : Int32.ofInt i = v) (hp : pc + 1 = pc') (K : Wq l nw Z EL a0 n0 y B ml ret R h0 Post fs h ce sl pc' L (.int v :: S)) : Wq l nw Z EL a0 n0 y B ml ret R h0 Post fs h ce sl pc L S :=
  pu (fun h hx hb q => by subst hp hv; exact XS.iconst h hx rfl (Jvm.hb hb hd) q) K
theorem bipush {i : Int} {v : Int32} (hd : decode B pc = .ok (.bipush i, 2)) (hv : (Int8.ofInt i).toInt32 = v) (hp : pc + 2 = pc') (K : Wq l nw Z EL a0 n0 y B ml ret R h0 Post fs h ce sl pc' L (.int v :: S)) : Wq l nw Z EL a0 n0 y B ml ret R h0 Post fs h ce sl pc L S :=
  pu (fun h hx hb q => by subst hp hv; exact XS.bipush h hx rfl (Jvm.hb hb hd) q) K
theorem sipush {i : Int} {v : Int32} (hd : decode B pc = .ok (.sipush i, 3)) (hv : (Int16.ofInt i).toInt32 = v) (hp : pc + 3 = pc') (K : Wq l nw Z EL a0 n0 y B ml ret R h0 Post fs h ce sl pc' L (.int v :: S)) : Wq l nw Z EL a0 n0 y B ml ret R h0 Post fs h ce sl pc L S :=
  pu (fun h hx hb q => by subst hp hv; exact XS.sipush h hx rfl (Jvm.hb hb hd) q) K
theorem lconst {j : Fin 2} {v : Int64} (hd : decode B pc = .ok (.lconst j, 1)) (hv : Int64.ofNat j = v) (hp : pc + 1 = pc') (K : Wq l nw Z EL a0 n0 y B ml ret R h0 Post fs h ce sl pc' L (.long v :: S)) : Wq l nw Z EL a0 n0 y B ml ret R h0 Post fs h ce sl pc L S :=
  pu (fun h hx hb q => by subst hp hv; exact XS.lconst h hx rfl (Jvm.hb hb hd) q) K
theorem aconst_null  (hd : decode B pc = .ok (.aconst_null, 1)) (hp : pc + 1 = pc') (K : Wq l nw Z EL a0 n0 y B ml ret R h0 Post fs h ce sl pc' L (.null :: S)) : Wq l nw Z EL a0 n0 y B ml ret R h0 Post fs h ce sl pc L S :=
  pu (fun h hx hb q => by subst hp; exact XS.aconstNull h hx rfl (Jvm.hb hb hd) q) K
theorem iadd {x z : Int32} (hd : decode B pc = .ok (.iadd, 1)) (hp : pc + 1 = pc') (K : Wq l nw Z EL a0 n0 y B ml ret R h0 Post fs h ce sl pc' L (.int (x + z) :: S)) : Wq l nw Z EL a0 n0 y B ml ret R h0 Post fs h ce sl pc L (.int z :: .int x :: S) :=
  pu (fun h hx hb q => by subst hp; exact XS.iadd h hx rfl (Jvm.hb hb hd) rfl q) K
theorem isub {x z : Int32} (hd : decode B pc = .ok (.isub, 1)) (hp : pc + 1 = pc') (K : Wq l nw Z EL a0 n0 y B ml ret R h0 Post fs h ce sl pc' L (.int (x - z) :: S)) : Wq l nw Z EL a0 n0 y B ml ret R h0 Post fs h ce sl pc L (.int z :: .int x :: S) :=
  pu (fun h hx hb q => by subst hp; exact XS.isub h hx rfl (Jvm.hb hb hd) rfl q) K
theorem imul {x z : Int32} (hd : decode B pc = .ok (.imul, 1)) (hp : pc + 1 = pc') (K : Wq l nw Z EL a0 n0 y B ml ret R h0 Post fs h ce sl pc' L (.int (x * z) :: S)) : Wq l nw Z EL a0 n0 y B ml ret R h0 Post fs h ce sl pc L (.int z :: .int x :: S) :=
  pu (fun h hx hb q => by subst hp; exact XS.imul h hx rfl (Jvm.hb hb hd) rfl q) K
theorem iand {x z : Int32} (hd : decode B pc = .ok (.iand, 1)) (hp : pc + 1 = pc') (K : Wq l nw Z EL a0 n0 y B ml ret R h0 Post fs h ce sl pc' L (.int (x &&& z) :: S)) : Wq l nw Z EL a0 n0 y B ml ret R h0 Post fs h ce sl pc L (.int z :: .int x :: S) :=
  pu (fun h hx hb q => by subst hp; exact XS.iand h hx rfl (Jvm.hb hb hd) rfl q) K
theorem ior {x z : Int32} (hd : decode B pc = .ok (.ior, 1)) (hp : pc + 1 = pc') (K : Wq l nw Z EL a0 n0 y B ml ret R h0 Post fs h ce sl pc' L (.int (x ||| z) :: S)) : Wq l nw Z EL a0 n0 y B ml ret R h0 Post fs h ce sl pc L (.int z :: .int x :: S) :=
  pu (fun h hx hb q => by subst hp; exact XS.ior h hx rfl (Jvm.hb hb hd) rfl q) K
theorem ixor {x z : Int32} (hd : decode B pc = .ok (.ixor, 1)) (hp : pc + 1 = pc') (K : Wq l nw Z EL a0 n0 y B ml ret R h0 Post fs h ce sl pc' L (.int (x ^^^ z) :: S)) : Wq l nw Z EL a0 n0 y B ml ret R h0 Post fs h ce sl pc L (.int z :: .int x :: S) :=
  pu (fun h hx hb q => by subst hp; exact XS.ixor h hx rfl (Jvm.hb hb hd) rfl q) K
theorem ishl {x z : Int32} (hd : decode B pc = .ok (.ishl, 1)) (hp : pc + 1 = pc') (K : Wq l nw Z EL a0 n0 y B ml ret R h0 Post fs h ce sl pc' L (.int (x <<< (z &&& 31)) :: S)) : Wq l nw Z EL a0 n0 y B ml ret R h0 Post fs h ce sl pc L (.int z :: .int x :: S) :=
  pu (fun h hx hb q => by subst hp; exact XS.ishl h hx rfl (Jvm.hb hb hd) rfl q) K
theorem ishr {x z : Int32} (hd : decode B pc = .ok (.ishr, 1)) (hp : pc + 1 = pc') (K : Wq l nw Z EL a0 n0 y B ml ret R h0 Post fs h ce sl pc' L (.int (x >>> (z &&& 31)) :: S)) : Wq l nw Z EL a0 n0 y B ml ret R h0 Post fs h ce sl pc L (.int z :: .int x :: S) :=
  pu (fun h hx hb q => by subst hp; exact XS.ishr h hx rfl (Jvm.hb hb hd) rfl q) K
theorem iushr {x z : Int32} (hd : decode B pc = .ok (.iushr, 1)) (hp : pc + 1 = pc') (K : Wq l nw Z EL a0 n0 y B ml ret R h0 Post fs h ce sl pc' L (.int ((x.toUInt32 >>> (z &&& 31).toUInt32).toInt32) :: S)) : Wq l nw Z EL a0 n0 y B ml ret R h0 Post fs h ce sl pc L (.int z :: .int x :: S) :=
  pu (fun h hx hb q => by subst hp; exact XS.iushr h hx rfl (Jvm.hb hb hd) rfl q) K
theorem ladd {x z : Int64} (hd : decode B pc = .ok (.ladd, 1)) (hp : pc + 1 = pc') (K : Wq l nw Z EL a0 n0 y B ml ret R h0 Post fs h ce sl pc' L (.long (x + z) :: S)) : Wq l nw Z EL a0 n0 y B ml ret R h0 Post fs h ce sl pc L (.long z :: .long x :: S) :=
  pu (fun h hx hb q => by subst hp; exact XS.ladd h hx rfl (Jvm.hb hb hd) rfl q) K
theorem lsub {x z : Int64} (hd : decode B pc = .ok (.lsub, 1)) (hp : pc + 1 = pc') (K : Wq l nw Z EL a0 n0 y B ml ret R h0 Post fs h ce sl pc' L (.long (x - z) :: S)) : Wq l nw Z EL a0 n0 y B ml ret R h0 Post fs h ce sl pc L (.long z :: .long x :: S) :=
  pu (fun h hx hb q => by subst hp; exact XS.lsub h hx rfl (Jvm.hb hb hd) rfl q) K
theorem lmul {x z : Int64} (hd : decode B pc = .ok (.lmul, 1)) (hp : pc + 1 = pc') (K : Wq l nw Z EL a0 n0 y B ml ret R h0 Post fs h ce sl pc' L (.long (x * z) :: S)) : Wq l nw Z EL a0 n0 y B ml ret R h0 Post fs h ce sl pc L (.long z :: .long x :: S) :=
  pu (fun h hx hb q => by subst hp; exact XS.lmul h hx rfl (Jvm.hb hb hd) rfl q) K
theorem land {x z : Int64} (hd : decode B pc = .ok (.land, 1)) (hp : pc + 1 = pc') (K : Wq l nw Z EL a0 n0 y B ml ret R h0 Post fs h ce sl pc' L (.long (x &&& z) :: S)) : Wq l nw Z EL a0 n0 y B ml ret R h0 Post fs h ce sl pc L (.long z :: .long x :: S) :=
  pu (fun h hx hb q => by subst hp; exact XS.land h hx rfl (Jvm.hb hb hd) rfl q) K
theorem lor {x z : Int64} (hd : decode B pc = .ok (.lor, 1)) (hp : pc + 1 = pc') (K : Wq l nw Z EL a0 n0 y B ml ret R h0 Post fs h ce sl pc' L (.long (x ||| z) :: S)) : Wq l nw Z EL a0 n0 y B ml ret R h0 Post fs h ce sl pc L (.long z :: .long x :: S) :=
  pu (fun h hx hb q => by subst hp; exact XS.lor h hx rfl (Jvm.hb hb hd) rfl q) K
theorem lxor {x z : Int64} (hd : decode B pc = .ok (.lxor, 1)) (hp : pc + 1 = pc') (K : Wq l nw Z EL a0 n0 y B ml ret R h0 Post fs h ce sl pc' L (.long (x ^^^ z) :: S)) : Wq l nw Z EL a0 n0 y B ml ret R h0 Post fs h ce sl pc L (.long z :: .long x :: S) :=
  pu (fun h hx hb q => by subst hp; exact XS.lxor h hx rfl (Jvm.hb hb hd) rfl q) K
theorem lshl {x : Int64} {z : Int32} (hd : decode B pc = .ok (.lshl, 1)) (hp : pc + 1 = pc') (K : Wq l nw Z EL a0 n0 y B ml ret R h0 Post fs h ce sl pc' L (.long (x <<< (z &&& 0x3f).toInt64) :: S)) : Wq l nw Z EL a0 n0 y B ml ret R h0 Post fs h ce sl pc L (.int z :: .long x :: S) :=
  pu (fun h hx hb q => by subst hp; exact XS.lshl h hx rfl (Jvm.hb hb hd) rfl q) K
theorem lshr {x : Int64} {z : Int32} (hd : decode B pc = .ok (.lshr, 1)) (hp : pc + 1 = pc') (K : Wq l nw Z EL a0 n0 y B ml ret R h0 Post fs h ce sl pc' L (.long (x >>> (z &&& 0x3f).toInt64) :: S)) : Wq l nw Z EL a0 n0 y B ml ret R h0 Post fs h ce sl pc L (.int z :: .long x :: S) :=
  pu (fun h hx hb q => by subst hp; exact XS.lshr h hx rfl (Jvm.hb hb hd) rfl q) K
theorem lushr {x : Int64} {z : Int32} (hd : decode B pc = .ok (.lushr, 1)) (hp : pc + 1 = pc') (K : Wq l nw Z EL a0 n0 y B ml ret R h0 Post fs h ce sl pc' L (.long ((x.toUInt64 >>> (z &&& 0x3f).toInt64.toUInt64).toInt64) :: S)) : Wq l nw Z EL a0 n0 y B ml ret R h0 Post fs h ce sl pc L (.int z :: .long x :: S) :=
  pu (fun h hx hb q => by subst hp; exact XS.lushr h hx rfl (Jvm.hb hb hd) rfl q) K
theorem idiv {x z : Int32} (hd : decode B pc = .ok (.idiv, 1)) (hz : ¬ z = 0) (hp : pc + 1 = pc') (K : Wq l nw Z EL a0 n0 y B ml ret R h0 Post fs h ce sl pc' L (.int (x / z) :: S)) : Wq l nw Z EL a0 n0 y B ml ret R h0 Post fs h ce sl pc L (.int z :: .int x :: S) :=
  pu (fun h hx hb q => by subst hp; exact XS.idiv h hx rfl (Jvm.hb hb hd) rfl hz q) K
theorem ldiv {x z : Int64} (hd : decode B pc = .ok (.ldiv, 1)) (hz : ¬ z = 0) (hp : pc + 1 = pc') (K : Wq l nw Z EL a0 n0 y B ml ret R h0 Post fs h ce sl pc' L (.long (x / z) :: S)) : Wq l nw Z EL a0 n0 y B ml ret R h0 Post fs h ce sl pc L (.long z :: .long x :: S) :=
  pu (fun h hx hb q => by subst hp; exact XS.ldiv h hx rfl (Jvm.hb hb hd) rfl hz q) K
theorem irem {x z : Int32} (hd : decode B pc = .ok (.irem, 1)) (hz : ¬ z = 0) (hp : pc + 1 = pc') (K : Wq l nw Z EL a0 n0 y B ml ret R h0 Post fs h ce sl pc' L (.int (x % z) :: S)) : Wq l nw Z EL a0 n0 y B ml ret R h0 Post fs h ce sl pc L (.int z :: .int x :: S) := fun p e s m args below meth c T locs vm k C =>
  (K p e s m args below meth c T locs vm k C).st fun u q => by subst hp; exact iremM C.2.2.1 C.1.1 rfl (Jvm.hb C.1.2.1 hd) rfl hz q
theorem i2l {x : Int32} (hd : decode B pc = .ok (.i2l, 1)) (hp : pc + 1 = pc') (K : Wq l nw Z EL a0 n0 y B ml ret R h0 Post fs h ce sl pc' L (.long (x.toInt64) :: S)) : Wq l nw Z EL a0 n0 y B ml ret R h0 Post fs h ce sl pc L (.int x :: S) :=
  pu (fun h hx hb q => by subst hp; exact XS.i2l h hx rfl (Jvm.hb hb hd) rfl q) K
theorem l2i {x : Int64} (hd : decode B pc = .ok (.l2i, 1)) (hp : pc + 1 = pc') (K : Wq l nw Z EL a0 n0 y B ml ret R h0 Post fs h ce sl pc' L (.int (x.toInt32) :: S)) : Wq l nw Z EL a0 n0 y B ml ret R h0 Post fs h ce sl pc L (.long x :: S) :=
  pu (fun h hx hb q => by subst hp; exact XS.l2i h hx rfl (Jvm.hb hb hd) rfl q) K
theorem i2b {x : Int32} (hd : decode B pc = .ok (.i2b, 1)) (hp : pc + 1 = pc') (K : Wq l nw Z EL a0 n0 y B ml ret R h0 Post fs h ce sl pc' L (.int (x.toInt8.toInt32) :: S)) : Wq l nw Z EL a0 n0 y B ml ret R h0 Post fs h ce sl pc L (.int x :: S) :=
  pu (fun h hx hb q => by subst hp; exact XS.i2b h hx rfl (Jvm.hb hb hd) rfl q) K
theorem i2c {x : Int32} (hd : decode B pc = .ok (.i2c, 1)) (hp : pc + 1 = pc') (K : Wq l nw Z EL a0 n0 y B ml ret R h0 Post fs h ce sl pc' L (.int (x.toUInt32.toUInt16.toUInt32.toInt32) :: S)) : Wq l nw Z EL a0 n0 y B ml ret R h0 Post fs h ce sl pc L (.int x :: S) :=
  pu (fun h hx hb q => by subst hp; exact XS.i2c h hx rfl (Jvm.hb hb hd) rfl q) K
theorem i2s {x : Int32} (hd : decode B pc = .ok (.i2s, 1)) (hp : pc + 1 = pc') (K : Wq l nw Z EL a0 n0 y B ml ret R h0 Post fs h ce sl pc' L (.int (x.toInt16.toInt32) :: S)) : Wq l nw Z EL a0 n0 y B ml ret R h0 Post fs h ce sl pc L (.int x :: S) :=
  pu (fun h hx hb q => by subst hp; exact XS.i2s h hx rfl (Jvm.hb hb hd) rfl q) K
theorem ineg {x : Int32} (hd : decode B pc = .ok (.ineg, 1)) (hp : pc + 1 = pc') (K : Wq l nw Z EL a0 n0 y B ml ret R h0 Post fs h ce sl pc' L (.int (-x) :: S)) : Wq l nw Z EL a0 n0 y B ml ret R h0 Post fs h ce sl pc L (.int x :: S) :=
  pu (fun h hx hb q => by subst hp; exact XS.ineg h hx rfl (Jvm.hb hb hd) rfl q) K
theorem lneg {x : Int64} (hd : decode B pc = .ok (.lneg, 1)) (hp : pc + 1 = pc') (K : Wq l nw Z EL a0 n0 y B ml ret R h0 Post fs h ce sl pc' L (.long (-x) :: S)) : Wq l nw Z EL a0 n0 y B ml ret R h0 Post fs h ce sl pc L (.long x :: S) :=
  pu (fun h hx hb q => by subst hp; exact XS.lneg h hx rfl (Jvm.hb hb hd) rfl q) K
theorem lcmp {x z : Int64} (hd : decode B pc = .ok (.lcmp, 1)) (hp : pc + 1 = pc') (K : Wq l nw Z EL a0 n0 y B ml ret R h0 Post fs h ce sl pc' L (.int (lcmpW x z) :: S)) : Wq l nw Z EL a0 n0 y B ml ret R h0 Post fs h ce sl pc L (.long z :: .long x :: S) :=
  pu (fun h hx hb q => by subst hp; exact XS.lcmp h hx rfl (Jvm.hb hb hd) rfl q) K
theorem iinc {j : Nat} {i : Int} {x v : Int32} {L' : Array Slot} (hd : decode B pc = .ok (.iinc j i, 3)) (hl : L[j]? = some (.val (.int x))) (hv : x + Int32.ofInt i = v) (hl' : storeLocals L j (.int v) = some L') (hp : pc + 3 = pc') (K : Wq l nw Z EL a0 n0 y B ml ret R h0 Post fs h ce sl pc' L' S) : Wq l nw Z EL a0 n0 y B ml ret R h0 Post fs h ce sl pc L S :=
  pu (fun h hx hb q => by subst hp hv; exact XS.iinc h hx rfl (Jvm.hb hb hd) hl hl' q) K
theorem dup {v : Value} (hd : decode B pc = .ok (.dup, 1)) (hc : v.category = 1) (hp : pc + 1 = pc') (K : Wq l nw Z EL a0 n0 y B ml ret R h0 Post fs h ce sl pc' L (v :: v :: S)) : Wq l nw Z EL a0 n0 y B ml ret R h0 Post fs h ce sl pc L (v :: S) :=
  pu (fun h hx hb q => by subst hp; exact XS.dup h hx rfl (Jvm.hb hb hd) rfl hc q) K
theorem pop {v : Value} (hd : decode B pc = .ok (.pop, 1)) (hc : v.category = 1) (hp : pc + 1 = pc') (K : Wq l nw Z EL a0 n0 y B ml ret R h0 Post fs h ce sl pc' L S) : Wq l nw Z EL a0 n0 y B ml ret R h0 Post fs h ce sl pc L (v :: S) :=
  pu (fun h hx hb q => by subst hp; exact XS.pop h hx rfl (Jvm.hb hb hd) rfl hc q) K
theorem dup_x1 {v w : Value} (hd : decode B pc = .ok (.dup_x1, 1)) (hc : v.category = 1) (hc2 : w.category = 1) (hp : pc + 1 = pc') (K : Wq l nw Z EL a0 n0 y B ml ret R h0 Post fs h ce sl pc' L (v :: w :: v :: S)) : Wq l nw Z EL a0 n0 y B ml ret R h0 Post fs h ce sl pc L (v :: w :: S) :=
  pu (fun h hx hb q => by subst hp; exact XS.dupX1 h hx rfl (Jvm.hb hb hd) rfl hc hc2 q) K
theorem i2d {x : Int32} (hd : decode B pc = .ok (.i2d, 1)) (hp : pc + 1 = pc') (K : Wq l nw Z EL a0 n0 y B ml ret R h0 Post fs h ce sl pc' L (.double (FP.i2d x) :: S)) : Wq l nw Z EL a0 n0 y B ml ret R h0 Post fs h ce sl pc L (.int x :: S) :=
  pu (fun h hx hb q => by subst hp; exact XS.i2dS h hx rfl (Jvm.hb hb hd) rfl rfl q) K
theorem l2d {x : Int64} (hd : decode B pc = .ok (.l2d, 1)) (hp : pc + 1 = pc') (K : Wq l nw Z EL a0 n0 y B ml ret R h0 Post fs h ce sl pc' L (.double (FP.l2d x) :: S)) : Wq l nw Z EL a0 n0 y B ml ret R h0 Post fs h ce sl pc L (.long x :: S) :=
  pu (fun h hx hb q => by subst hp; exact XS.l2dS h hx rfl (Jvm.hb hb hd) rfl rfl q) K
theorem dcmp {o : CmpOp} {x z : UInt64} (hd : decode B pc = .ok (.dcmp o, 1)) (hp : pc + 1 = pc') (K : Wq l nw Z EL a0 n0 y B ml ret R h0 Post fs h ce sl pc' L (.int (cmpValue (FP.dcmp x z) o) :: S)) : Wq l nw Z EL a0 n0 y B ml ret R h0 Post fs h ce sl pc L (.double z :: .double x :: S) :=
  pu (fun h hx hb q => by subst hp; exact XS.dcmpS h hx rfl (Jvm.hb hb hd) rfl rfl q) K
theorem dadd {x z v : UInt64} (hd : decode B pc = .ok (.dadd, 1)) (hn : Jvm.Free.Fl.NoNaN64 (FP.dadd x z)) (hv : FP.dadd x z = v) (hp : pc + 1 = pc') (K : Wq l nw Z EL a0 n0 y B ml ret R h0 Post fs h ce sl pc' L (.double v :: S)) : Wq l nw Z EL a0 n0 y B ml ret R h0 Post fs h ce sl pc L (.double z :: .double x :: S) :=
  pu (fun h hx hb q => by subst hp; exact XS.daddS h hx rfl (Jvm.hb hb hd) rfl hn hv q) K
theorem dsub {x z v : UInt64} (hd : decode B pc = .ok (.dsub, 1)) (hn : Jvm.Free.Fl.NoNaN64 (FP.dsub x z)) (hv : FP.dsub x z = v) (hp : pc + 1 = pc') (K : Wq l nw Z EL a0 n0 y B ml ret R h0 Post fs h ce sl pc' L (.double v :: S)) : Wq l nw Z EL a0 n0 y B ml ret R h0 Post fs h ce sl pc L (.double z :: .double x :: S) :=
  pu (fun h hx hb q => by subst hp; exact XS.dsubS h hx rfl (Jvm.hb hb hd) rfl hn hv q) K
theorem dmul {x z v : UInt64} (hd : decode B pc = .ok (.dmul, 1)) (hn : Jvm.Free.Fl.NoNaN64 (FP.dmul x z)) (hv : FP.dmul x z = v) (hp : pc + 1 = pc') (K : Wq l nw Z EL a0 n0 y B ml ret R h0 Post fs h ce sl pc' L (.double v :: S)) : Wq l nw Z EL a0 n0 y B ml ret R h0 Post fs h ce sl pc L (.double z :: .double x :: S) :=
  pu (fun h hx hb q => by subst hp; exact XS.dmulS h hx rfl (Jvm.hb hb hd) rfl hn hv q) K
theorem ddiv {x z v : UInt64} (hd : decode B pc = .ok (.ddiv, 1)) (hn : Jvm.Free.Fl.NoNaN64 (FP.ddiv x z)) (hv : FP.ddiv x z = v) (hp : pc + 1 = pc') (K : Wq l nw Z EL a0 n0 y B ml ret R h0 Post fs h ce sl pc' L (.double v :: S)) : Wq l nw Z EL a0 n0 y B ml ret R h0 Post fs h ce sl pc L (.double z :: .double x :: S) :=
  pu (fun h hx hb q => by subst hp; exact XS.ddivS h hx rfl (Jvm.hb hb hd) rfl hn hv q) K
theorem goto {o : Int} (hd : decode B pc = .ok (.goto o, 3)) (ho : 0 ≤ (pc : Int) + o) (hp : ((pc : Int) + o).toNat = pc') (K : Wq l nw Z EL a0 n0 y B ml ret R h0 Post fs h ce sl pc' L S) : Wq l nw Z EL a0 n0 y B ml ret R h0 Post fs h ce sl pc L S :=
  pu (fun h hx hb q => XS.goto h hx rfl (pc0 := pc) rfl (Jvm.hb hb hd) ho hp q) K
def rel (cd : ClassFile.Cond) (x z : Int32) : Prop := match cd with
  | .eq => x = z
  | .ne => ¬ x = z
  | .lt => x < z
  | .ge => ¬ x < z
  | .gt => z < x
  | .le => ¬ z < x
def relN (cd : ClassFile.Cond) (x z : Int32) : Prop := match cd with
  | .eq => ¬ x = z
  | .ne => x = z
  | .lt => ¬ x < z
  | .ge => x < z
  | .gt => ¬ z < x
  | .le => z < x
theorem rel_t {cd : ClassFile.Cond} {x z : Int32} (h : rel cd x z) : if_icmp.holds cd x z = true := by
  cases cd
  · exact (teq h).1
  · exact (feq h).2
  · exact (tlt h).1
  · exact (flt h).2.1
  · exact (tlt h).2.2.1
  · exact (flt h).2.2.2
theorem rel_f {cd : ClassFile.Cond} {x z : Int32} (h : relN cd x z) : if_icmp.holds cd x z = false := by
  cases cd
  · exact (feq h).1
  · exact (teq h).2
  · exact (flt h).1
  · exact (tlt h).2.1
  · exact (flt h).2.2.1
  · exact (tlt h).2.2.2
theorem rel_or (cd : ClassFile.Cond) (x z : Int32) : rel cd x z ∨ relN cd x z := by
  cases cd <;> simp only [rel, relN] <;> first | exact Decidable.em _ | exact (Decidable.em _).symm
theorem icmpT {cd : ClassFile.Cond} {o : Int} {x z : Int32} (hd : decode B pc = .ok (.if_icmp cd o, 3)) (hc : rel cd x z) (ho : 0 ≤ (pc : Int) + o) (hp : ((pc : Int) + o).toNat = pc') (K : Wq l nw Z EL a0 n0 y B ml ret R h0 Post fs h ce sl pc' L S) : Wq l nw Z EL a0 n0 y B ml ret R h0 Post fs h ce sl pc L (.int z :: .int x :: S) :=
  pu (fun h hx hb q => XS.icmpYes h hx rfl (pc0 := pc) rfl (Jvm.hb hb hd) rfl (rel_t hc) ho hp q) K
theorem icmpF {cd : ClassFile.Cond} {o : Int} {x z : Int32} (hd : decode B pc = .ok (.if_icmp cd o, 3)) (hc : relN cd x z) (hp : pc + 3 = pc') (K : Wq l nw Z EL a0 n0 y B ml ret R h0 Post fs h ce sl pc' L S) : Wq l nw Z EL a0 n0 y B ml ret R h0 Post fs h ce sl pc L (.int z :: .int x :: S) :=
  pu (fun h hx hb q => by subst hp; exact XS.icmpNo h hx rfl (Jvm.hb hb hd) rfl (rel_f hc) q) K
theorem icmp {cd : ClassFile.Cond} {o : Int} {x z : Int32} {pcF : Nat} (hd : decode B pc = .ok (.if_icmp cd o, 3)) (ho : 0 ≤ (pc : Int) + o) (hp : ((pc : Int) + o).toNat = pc') (hp2 : pc + 3 = pcF) (K : rel cd x z → Wq l nw Z EL a0 n0 y B ml ret R h0 Post fs h ce sl pc' L S) (K2 : relN cd x z → Wq l nw Z EL a0 n0 y B ml ret R h0 Post fs h ce sl pcF L S) : Wq l nw Z EL a0 n0 y B ml ret R h0 Post fs h ce sl pc L (.int z :: .int x :: S) :=
  (rel_or cd x z).elim (fun q => icmpT hd q ho hp (K q)) (fun q => icmpF hd q hp2 (K2 q))
theorem ifT {cd : ClassFile.Cond} {o : Int} {x : Int32} (hd : decode B pc = .ok (.ifCond cd o, 3)) (hc : rel cd x 0) (ho : 0 ≤ (pc : Int) + o) (hp : ((pc : Int) + o).toNat = pc') (K : Wq l nw Z EL a0 n0 y B ml ret R h0 Post fs h ce sl pc' L S) : Wq l nw Z EL a0 n0 y B ml ret R h0 Post fs h ce sl pc L (.int x :: S) :=
  pu (fun h hx hb q => XS.ifYes h hx rfl (pc0 := pc) rfl (Jvm.hb hb hd) rfl ((if0 _ _).trans (rel_t hc)) ho hp q) K
theorem ifF {cd : ClassFile.Cond} {o : Int} {x : Int32} (hd : decode B pc = .ok (.ifCond cd o, 3)) (hc : relN cd x 0) (hp : pc + 3 = pc') (K : Wq l nw Z EL a0 n0 y B ml ret R h0 Post fs h ce sl pc' L S) : Wq l nw Z EL a0 n0 y B ml ret R h0 Post fs h ce sl pc L (.int x :: S) :=
  pu (fun h hx hb q => by subst hp; exact XS.ifNo h hx rfl (Jvm.hb hb hd) rfl ((if0 _ _).trans (rel_f hc)) q) K
theorem ifc {cd : ClassFile.Cond} {o : Int} {x : Int32} {pcF : Nat} (hd : decode B pc = .ok (.ifCond cd o, 3)) (ho : 0 ≤ (pc : Int) + o) (hp : ((pc : Int) + o).toNat = pc') (hp2 : pc + 3 = pcF) (K : rel cd x 0 → Wq l nw Z EL a0 n0 y B ml ret R h0 Post fs h ce sl pc' L S) (K2 : relN cd x 0 → Wq l nw Z EL a0 n0 y B ml ret R h0 Post fs h ce sl pcF L S) : Wq l nw Z EL a0 n0 y B ml ret R h0 Post fs h ce sl pc L (.int x :: S) :=
  (rel_or cd x 0).elim (fun q => ifT hd q ho hp (K q)) (fun q => ifF hd q hp2 (K2 q))
theorem ifnullT {o : Int} (hd : decode B pc = .ok (.ifnull o, 3)) (ho : 0 ≤ (pc : Int) + o) (hp : ((pc : Int) + o).toNat = pc') (K : Wq l nw Z EL a0 n0 y B ml ret R h0 Post fs h ce sl pc' L S) : Wq l nw Z EL a0 n0 y B ml ret R h0 Post fs h ce sl pc L (.null :: S) :=
  pu (fun h hx hb q => XS.ifnullYes h hx rfl (pc0 := pc) rfl (Jvm.hb hb hd) rfl ho hp q) K
theorem ifnullF {o : Int} {a : Addr} (hd : decode B pc = .ok (.ifnull o, 3)) (hp : pc + 3 = pc') (K : Wq l nw Z EL a0 n0 y B ml ret R h0 Post fs h ce sl pc' L S) : Wq l nw Z EL a0 n0 y B ml ret R h0 Post fs h ce sl pc L (.ref a :: S) :=
  pu (fun h hx hb q => by subst hp; exact XS.ifnullNo h hx rfl (Jvm.hb hb hd) rfl q) K
theorem ifnonnullT {o : Int} {a : Addr} (hd : decode B pc = .ok (.ifnonnull o, 3)) (ho : 0 ≤ (pc : Int) + o) (hp : ((pc : Int) + o).toNat = pc') (K : Wq l nw Z EL a0 n0 y B ml ret R h0 Post fs h ce sl pc' L S) : Wq l nw Z EL a0 n0 y B ml ret R h0 Post fs h ce sl pc L (.ref a :: S) :=
  pu (fun h hx hb q => XS.ifnonnullYes h hx rfl (pc0 := pc) rfl (Jvm.hb hb hd) rfl ho hp q) K
theorem ifnonnullF {o : Int} (hd : decode B pc = .ok (.ifnonnull o, 3)) (hp : pc + 3 = pc') (K : Wq l nw Z EL a0 n0 y B ml ret R h0 Post fs h ce sl pc' L S) : Wq l nw Z EL a0 n0 y B ml ret R h0 Post fs h ce sl pc L (.null :: S) :=
  pu (fun h hx hb q => by subst hp; exact XS.ifnonnullNo h hx rfl (Jvm.hb hb hd) rfl q) K
/-- two references compared: same or not -/
theorem acmp {cd : ACond} {o : Int} {v w : Value} (same : Bool) (hd : decode B pc = .ok (.if_acmp cd o, 3)) (h1 : v.isRef = true) (h2 : w.isRef = true) (hc : decide (v = w) = same) (ho : 0 ≤ (pc : Int) + o) (hp : pc' = if acV cd same = true then ((pc : Int) + o).toNat else pc + 3) (K : Wq l nw Z EL a0 n0 y B ml ret R h0 Post fs h ce sl pc' L S) : Wq l nw Z EL a0 n0 y B ml ret R h0 Post fs h ce sl pc L (w :: v :: S) := fun p e s m args below meth c T locs vm k C =>
  (K p e s m args below meth c T locs vm k C).st fun u q => Jvm.RoadKit.acmp (g := mkF m pc L (w :: v :: S)) C.2.2.1 C.1.1 rfl h1 h2 (pc0 := pc) (pc' := pc') (same := same) rfl (Jvm.hb C.1.2.1 hd) rfl hc ho hp q
/-- a step that hands back a state with the same heap -/
theorem same {L' : Array Slot} {S' : List Value} (st : ∀ {p : Program} {e : Env} {s : State} {m : MethodId} {args : Array Value} {below : List Frame} {meth : Method} {c : Code} {T : State} {locs : List Loc}, p.tables.exec = Jvm.exec → c.code = B → s.vm.findClass y.cls = some m.cls → Z.Warmed39 s.vm → (∀ d ∈ tables_1, d.before a0 Z = true) → T.heap = h → c.maxLocals = ml →
      Stand p l e R s m args below meth c T locs ce sl → ∃ T', Stand p l e R s m args below meth c T' locs ce sl ∧ T'.heap = h ∧ ∀ u, Steps p.tables e below (T'.setTop (mkF m pc' L' S')) u → Steps p.tables e below (T.setTop (mkF m pc L S)) u)
    (K : Wq l nw Z EL a0 n0 y B ml ret R h0 Post fs h ce sl pc' L' S') : Wq l nw Z EL a0 n0 y B ml ret R h0 Post fs h ce sl pc L S := fun p e s m args below meth c T locs vm k C => by
  obtain ⟨⟨hx, hby, hml, hret, hlk, hnm, hown, hh0⟩, ⟨hZ, hw, hEL, hnw⟩, X, hT, ⟨hN, hO⟩, ⟨hS, hk⟩, hC, hF⟩ := C
  obtain ⟨T', X', e', q⟩ := st (s := s.setVm vm) hx hby hown hZ hw hT hml X
  exact (K p e s m args below meth c T' locs vm k ⟨⟨hx, hby, hml, hret, hlk, hnm, hown, hh0⟩, ⟨hZ, hw, hEL, hnw⟩, X', e', ⟨hN, hO⟩, ⟨hS, hk⟩, hC, hF⟩).st q
/-- a step that makes new cells -/
theorem grow {L' : Array Slot} {S' : List Value} {ce' sl' : Nat} {P : Heap → Prop} (st : ∀ {p : Program} {e : Env} {s : State} {m : MethodId} {args : Array Value} {below : List Frame} {meth : Method} {c : Code} {T : State} {locs : List Loc}, p.tables.exec = Jvm.exec → c.code = B → s.vm.findClass y.cls = some m.cls → Z.Warmed39 s.vm → (∀ d ∈ tables_1, d.before a0 Z = true) → T.heap = h → c.maxLocals = ml →
      Stand p l e R s m args below meth c T locs ce sl → ∃ T' h', Stand p l e R s m args below meth c T' locs ce' sl' ∧ T'.heap = h' ∧ Ext h h' ∧ P h' ∧ ∀ u, Steps p.tables e below (T'.setTop (mkF m pc' L' S')) u → Steps p.tables e below (T.setTop (mkF m pc L S)) u)
    {fs' : List Addr} (hfs : ∀ x ∈ fs', x ∈ fs ∨ x = h.size) (hlt : ∀ h', Ext h h' → P h' → h.size < h'.size) (K : ∀ h', Ext h h' → P h' → Wq l nw Z EL a0 n0 y B ml ret R h0 Post fs' h' ce' sl' pc' L' S') : Wq l nw Z EL a0 n0 y B ml ret R h0 Post fs h ce sl pc L S := fun p e s m args below meth c T locs vm k C => by
  obtain ⟨⟨hx, hby, hml, hret, hlk, hnm, hown, hh0⟩, ⟨hZ, hw, hEL, hnw⟩, X, hT, ⟨hN, hO⟩, ⟨hS, hk⟩, hC, hF⟩ := C
  obtain ⟨T', h', X', e', E, hP, q⟩ := st (s := s.setVm vm) hx hby hown hZ hw hT hml X
  have hC' := hC.trans (CHr.ext E hC.1)
  refine (K h' E hP p e s m args below meth c T' locs vm k ⟨⟨hx, hby, hml, hret, hlk, hnm, hown, hh0⟩, ⟨hZ, hw, hEL, hnw⟩, X', e', ⟨hN, hO.ext E⟩, ⟨hS, Nat.le_trans hk E.1⟩, hC', fun x q => ?_⟩).st q
  rcases hfs x q with r | rfl
  · exact ⟨(hF x r).1, Nat.lt_of_lt_of_le (hF x r).2.1 E.1, Safe.ext E hC.1 (hF x r).2.2⟩
  · exact ⟨by have := hO.2.1; rw [hO.1] at this; exact this, hlt h' E hP, Safe.ext E hC.1 (Safe.new (Nat.le_refl _))⟩
/-- a step that writes one slot -/
theorem wrote {S' : List Value} {a : Addr} {j : Nat} {v : Value} (st : ∀ {p : Program} {e : Env} {s : State} {m : MethodId} {args : Array Value} {below : List Frame} {meth : Method} {c : Code} {T : State} {locs : List Loc}, p.tables.exec = Jvm.exec → c.code = B → s.vm.findClass y.cls = some m.cls → meth.name = y.name → Z.Warmed39 s.vm → (∀ d ∈ tables_1, d.before a0 Z = true) → T.heap = h →
      Stand p l e R s m args below meth c T locs ce sl → ∃ T' h', Stand p l e R s m args below meth c T' (locs ++ [⟨a, j⟩]) ce sl ∧ T'.heap = h' ∧ Wr h h' a j v ∧ ∀ u, Steps p.tables e below (T'.setTop (mkF m pc' L S')) u → Steps p.tables e below (T.setTop (mkF m pc L S)) u)
    (hf : a ∈ fs) (K : ∀ h', Wr h h' a j v → Wq l nw Z EL a0 n0 y B ml ret R h0 Post fs h' ce sl pc' L S') : Wq l nw Z EL a0 n0 y B ml ret R h0 Post fs h ce sl pc L S := fun p e s m args below meth c T locs vm k C => by
  obtain ⟨⟨hx, hby, hml, hret, hlk, hnm, hown, hh0⟩, ⟨hZ, hw, hEL, hnw⟩, X, hT, ⟨hN, hO⟩, ⟨hS, hk⟩, hC, hF⟩ := C
  obtain ⟨T', h', X', e', W', q⟩ := st (s := s.setVm vm) hx hby hown hnm hZ hw hT X
  have hsf := (hF a hf).2.2
  have hsz : h'.size = h.size := W'.size
  exact (K h' W' p e s m args below meth c T' _ vm k ⟨⟨hx, hby, hml, hret, hlk, hnm, hown, hh0⟩, ⟨hZ, hw, hEL, hnw⟩, X', e', ⟨Fr.snoc X' hN (hF a hf).1, hO.wr W' (hF a hf).1⟩, ⟨hS, (by rw [hsz]; exact hk)⟩, hC.trans (CHr.wr W' hsf hC.1), fun x r => ⟨(hF x r).1, by rw [hsz]; exact (hF x r).2.1, Safe.wr W' hsf hC.1 (hF x r).2.2⟩⟩).st q
theorem wat {d : Jvm.Cond} (hw : ∀ d ∈ tables_1, d.before a0 Z = true) {i : Nat} (h : tables_1[i]? = some d) : d.before a0 Z = true := hw _ (List.mem_of_getElem? h)
theorem getfield {i ix : Nat} {C n d : String} {a : Addr} {v : Value} (hd : decode B pc = .ok (.getfield ix, 3)) (w : tables_1[i]? = some (.fieldLink y.cls ix C n d)) (F : Fld Z h a C n d v) (hp : pc + 3 = pc') (K : Wq l nw Z EL a0 n0 y B ml ret R h0 Post fs h ce sl pc' L (v :: S)) : Wq l nw Z EL a0 n0 y B ml ret R h0 Post fs h ce sl pc L (.ref a :: S) :=
  same (fun hx hby hown hZ hw hT _ X => by subst hp; exact getF X hx hZ hown (host := "") (Or.inl (wat hw w)) Via.refl hT F (g := mkF _ pc L (.ref a :: S)) rfl rfl (Jvm.hb hby hd)) K
theorem getstatic {i ix : Nat} {C n d : String} {v : Value} (hd : decode B pc = .ok (.getstatic ix, 3)) (w : tables_1[i]? = some (.fieldLink y.cls ix C n d)) (F : Sta Z h C n d v) (hp : pc + 3 = pc') (K : Wq l nw Z EL a0 n0 y B ml ret R h0 Post fs h ce sl pc' L (v :: S)) : Wq l nw Z EL a0 n0 y B ml ret R h0 Post fs h ce sl pc L S :=
  same (fun hx hby hown hZ hw hT _ X => by subst hp; exact getS2 X hx hZ hown (host := "") (Or.inl (wat hw w)) Via.refl hT F (g := mkF _ pc L S) rfl (Jvm.hb hby hd)) K
theorem putfield {i i2 i3 ix kk : Nat} {C O n d : String} {ty : FieldType} {a : Addr} {v v' old : Value} (hd : decode B pc = .ok (.putfield ix, 3)) (w : tables_1[i]? = some (.fieldLink y.cls ix O n d))
    (w2 : tables_1[i2]? = some (.lays C O n d) ∨ (tables_1[i2]? = some (.laysFinal C O n d) ∧ y.cls = O ∧ y.name = "<init>")) (w3 : tables_1[i3]? = some (.instantiable C kk))
    (F : Fld Z h a O n d old) (E : Exa Z h a C) (hty : parseFieldDescriptor d = some ty) (hn : narrow ty v = v') (hfit : fits ty v' = true) (hf : a ∈ fs) (hp : pc + 3 = pc')
    (K : ∀ h', Wr h h' a (Jvm.RoadKit.slotOf Z O n d) v' → Wq l nw Z EL a0 n0 y B ml ret R h0 Post fs h' ce sl pc' L S) : Wq l nw Z EL a0 n0 y B ml ret R h0 Post fs h ce sl pc L (v :: .ref a :: S) :=
  wrote (fun hx hby hown hnm hZ hw hT X => by subst hp; exact putFN X hx hZ hown (wat hw w) Via.refl hT F E (w2.imp (fun q => wat hw q) fun q => ⟨wat hw q.1, q.2.1, hnm.trans q.2.2⟩) (wat hw w3) hty hn hfit (g := mkF _ pc L (v :: .ref a :: S)) rfl rfl (Jvm.hb hby hd))
    hf K
theorem new {i i2 i3 ix n : Nat} {C : String} (hd : decode B pc = .ok (.new ix, 3)) (w : tables_1[i]? = some (.classLink y.cls ix C)) (w2 : tables_1[i2]? = some (.instantiable C n)) (w3 : tables_1[i3]? = some (.initialized C)) (hc : ce + 1 ≤ R.cells) (hs : sl + n ≤ R.slots) (hp : pc + 3 = pc')
    (K : ∀ h' a, a = h.size → Ext h h' → Exa Z h' a C → (∀ {O nm d : String} {ty : FieldType}, Laid Z a0 C O nm d → parseFieldDescriptor d = some ty → Fld Z h' a O nm d (defaultValue ty)) → Wq l nw Z EL a0 n0 y B ml ret R h0 Post (a :: fs) h' (ce + 1) (sl + n) pc' L (.ref a :: S)) : Wq l nw Z EL a0 n0 y B ml ret R h0 Post fs h ce sl pc L S :=
  grow (P := fun h' => Exa Z h' h.size C ∧ (∀ {O nm d : String} {ty : FieldType}, Laid Z a0 C O nm d → parseFieldDescriptor d = some ty → Fld Z h' h.size O nm d (defaultValue ty))) (fun hx hby hown hZ hw hT _ X => by
    subst hp
    obtain ⟨T', h', X', e', E, A, D, -, st⟩ := newO X hx hZ hown (wat hw w) (wat hw w2) (wat hw w3) hT (g := mkF _ pc L S) rfl (Jvm.hb hby hd) hc hs
    exact ⟨T', h', X', e', E, ⟨A, D⟩, st⟩) (fs' := h.size :: fs) (fun x q => (List.mem_cons.mp q).symm) (fun h' _ q => q.1.lt) (fun h' E q => K h' _ rfl E q.1 q.2)
theorem newarray {i cap : Nat} {aty : ArrayType} {ty : FieldType} {z : Int32} (hd : decode B pc = .ok (.newarray aty, 2)) (hty : newarray.typeOf aty = ty) (w : tables_1[i]? = some (.arrayClass ty)) (hz : ¬ z < 0) (hcap : z.toNatClampNeg ≤ cap) (hb8 : cap * 8 ≤ 536870912) (hc : ce + 1 ≤ R.cells) (hs : sl + cap ≤ R.slots) (hp : pc + 2 = pc')
    (K : ∀ h' a kc, a = h.size → Ext h h' → Arv Z h' a kc ty z [] (defaultValue ty) → Wq l nw Z EL a0 n0 y B ml ret R h0 Post (a :: fs) h' (ce + 1) (sl + cap) pc' L (.ref a :: S)) : Wq l nw Z EL a0 n0 y B ml ret R h0 Post fs h ce sl pc L (.int z :: S) :=
  grow (P := fun h' => ∃ kc, Arv Z h' h.size kc ty z [] (defaultValue ty)) (fun hx hby hown hZ hw hT _ X => by
    subst hp hty
    obtain ⟨T', h', kc, X', e', E, A, st⟩ := newP X hx hZ (wat hw w) hT (g := mkF _ pc L (.int z :: S)) rfl (Jvm.hb hby hd) rfl hz hcap hb8 hc hs
    exact ⟨T', h', X', e', E, ⟨kc, Arv.new A hz⟩, st⟩) (fs' := h.size :: fs) (fun x q => (List.mem_cons.mp q).symm) (fun h' _ q => q.elim fun kc r => r.lt) (fun h' E q => q.elim fun kc r => K h' _ kc rfl E r)
theorem arraylength {a : Addr} {kc : ClassId} {ty : FieldType} {z : Int32} {vs : List Value} {dv : Value} (hd : decode B pc = .ok (.arraylength, 1)) (F : Arv Z h a kc ty z vs dv) (hp : pc + 1 = pc') (K : Wq l nw Z EL a0 n0 y B ml ret R h0 Post fs h ce sl pc' L (.int z :: S)) : Wq l nw Z EL a0 n0 y B ml ret R h0 Post fs h ce sl pc L (.ref a :: S) :=
  same (fun {p e s m args below meth c T locs} hx hby hown hZ hw hT _ X => by
    subst hp
    obtain ⟨cl, A, -, hsz, hz, -⟩ := F
    refine ⟨T, X, hT, fun u q => X.arraylength hx (by rw [hT]; exact A.1) (State.isArrayOf_alike hZ.alike A.2.1) (g := mkF _ pc L (.ref a :: S)) rfl rfl (Jvm.hb hby hd) u ?_⟩
    rw [len_of hsz hz]; exact q) K
theorem iaload {a : Addr} {kc : ClassId} {z j : Int32} {vs : List Value} {dv v : Value} (hd : decode B pc = .ok (.iaload, 1)) (F : Arv Z h a kc .int z vs dv) (hj : ¬ j < 0 ∧ j < z) (hv : vs.getD j.toNatClampNeg dv = v) (hp : pc + 1 = pc') (K : Wq l nw Z EL a0 n0 y B ml ret R h0 Post fs h ce sl pc' L (v :: S)) : Wq l nw Z EL a0 n0 y B ml ret R h0 Post fs h ce sl pc L (.int j :: .ref a :: S) :=
  same (fun {p e s m args below meth c T locs} hx hby hown hZ hw hT _ X => by
    subst hp
    obtain ⟨cl, A, -, hsz, hz, hH, -⟩ := F
    have hin := inb_of hsz hj
    exact ⟨T, X, hT, fun u q => X.iaload hx (by rw [hT]; exact A.1) (State.isArrayOf_alike hZ.alike A.2.1) A.2.2 hin (hH.at hin hv) (g := mkF _ pc L (.int j :: .ref a :: S)) rfl rfl (Jvm.hb hby hd) u q⟩) K
theorem caload {a : Addr} {kc : ClassId} {z j : Int32} {vs : List Value} {dv v : Value} (hd : decode B pc = .ok (.caload, 1)) (F : Arv Z h a kc .char z vs dv) (hj : ¬ j < 0 ∧ j < z) (hv : vs.getD j.toNatClampNeg dv = v) (hp : pc + 1 = pc') (K : Wq l nw Z EL a0 n0 y B ml ret R h0 Post fs h ce sl pc' L (v :: S)) : Wq l nw Z EL a0 n0 y B ml ret R h0 Post fs h ce sl pc L (.int j :: .ref a :: S) :=
  same (fun {p e s m args below meth c T locs} hx hby hown hZ hw hT _ X => by
    subst hp
    obtain ⟨cl, A, -, hsz, hz, hH, -⟩ := F
    have hin := inb_of hsz hj
    exact ⟨T, X, hT, fun u q => X.caload hx (by rw [hT]; exact A.1) (State.isArrayOf_alike hZ.alike A.2.1) A.2.2 hin (hH.at hin hv) (g := mkF _ pc L (.int j :: .ref a :: S)) rfl rfl (Jvm.hb hby hd) u q⟩) K
theorem baload {a : Addr} {kc : ClassId} {z j : Int32} {vs : List Value} {dv v : Value} (hd : decode B pc = .ok (.baload, 1)) (F : Arv Z h a kc .byte z vs dv) (hj : ¬ j < 0 ∧ j < z) (hv : vs.getD j.toNatClampNeg dv = v) (hp : pc + 1 = pc') (K : Wq l nw Z EL a0 n0 y B ml ret R h0 Post fs h ce sl pc' L (v :: S)) : Wq l nw Z EL a0 n0 y B ml ret R h0 Post fs h ce sl pc L (.int j :: .ref a :: S) :=
  same (fun {p e s m args below meth c T locs} hx hby hown hZ hw hT _ X => by
    subst hp
    obtain ⟨cl, A, -, hsz, hz, hH, -⟩ := F
    have hin := inb_of hsz hj
    exact ⟨T, X, hT, fun u q => X.baloadBytes hx (by rw [hT]; exact A.1) (State.isArrayOf_alike hZ.alike A.2.1) A.2.2 hin (hH.at hin hv) (g := mkF _ pc L (.int j :: .ref a :: S)) rfl rfl (Jvm.hb hby hd) u q⟩) K
theorem laload {a : Addr} {kc : ClassId} {z j : Int32} {vs : List Value} {dv v : Value} (hd : decode B pc = .ok (.laload, 1)) (F : Arv Z h a kc .long z vs dv) (hj : ¬ j < 0 ∧ j < z) (hv : vs.getD j.toNatClampNeg dv = v) (hp : pc + 1 = pc') (K : Wq l nw Z EL a0 n0 y B ml ret R h0 Post fs h ce sl pc' L (v :: S)) : Wq l nw Z EL a0 n0 y B ml ret R h0 Post fs h ce sl pc L (.int j :: .ref a :: S) :=
  same (fun {p e s m args below meth c T locs} hx hby hown hZ hw hT _ X => by
    subst hp
    obtain ⟨cl, A, -, hsz, hz, hH, -⟩ := F
    have hin := inb_of hsz hj
    exact ⟨T, X, hT, fun u q => X.laload hx (by rw [hT]; exact A.1) (State.isArrayOf_alike hZ.alike A.2.1) A.2.2 hin (hH.at hin hv) (g := mkF _ pc L (.int j :: .ref a :: S)) rfl rfl (Jvm.hb hby hd) u q⟩) K
theorem aaload {a : Addr} {kc : ClassId} {ty : FieldType} {z j : Int32} {vs : List Value} {dv v : Value} (hd : decode B pc = .ok (.aaload, 1)) (hty : ty.isReference = true) (F : Arv Z h a kc ty z vs dv) (hj : ¬ j < 0 ∧ j < z) (hv : vs.getD j.toNatClampNeg dv = v) (hp : pc + 1 = pc') (K : Wq l nw Z EL a0 n0 y B ml ret R h0 Post fs h ce sl pc' L (v :: S)) : Wq l nw Z EL a0 n0 y B ml ret R h0 Post fs h ce sl pc L (.int j :: .ref a :: S) :=
  same (fun {p e s m args below meth c T locs} hx hby hown hZ hw hT _ X => by
    subst hp
    obtain ⟨cl, A, -, hsz, hz, hH, -⟩ := F
    have hin := inb_of hsz hj
    exact ⟨T, X, hT, fun u q => X.aaload hx (by rw [hT]; exact A.1) (State.isArrayOf_alike hZ.alike A.2.1) hty A.2.2 hin (hH.at hin hv) (g := mkF _ pc L (.int j :: .ref a :: S)) rfl rfl (Jvm.hb hby hd) u q⟩) K
theorem castore {a : Addr} {kc : ClassId} {z j x : Int32} {vs : List Value} {dv : Value} (hd : decode B pc = .ok (.castore, 1)) (F : Arv Z h a kc .char z vs dv) (hj : ¬ j < 0 ∧ j < z) (hf : a ∈ fs) (hl : j.toNatClampNeg < vs.length) (hp : pc + 1 = pc')
    (K : ∀ h', Wr h h' a j.toNatClampNeg (.int (nar .char x)) → Arv Z h' a kc .char z (vs.set j.toNatClampNeg (.int (nar .char x))) dv → Wq l nw Z EL a0 n0 y B ml ret R h0 Post fs h' ce sl pc' L S) : Wq l nw Z EL a0 n0 y B ml ret R h0 Post fs h ce sl pc L (.int x :: .int j :: .ref a :: S) := by
  obtain ⟨cl, A, q1, hsz, hz, hH, hG⟩ := F
  have hin := inb_of hsz hj
  exact wrote (fun hx hby hown hnm hZ hw hT X => by subst hp; exact stC X hx hZ hT A hin (g := mkF _ pc L (.int x :: .int j :: .ref a :: S)) rfl rfl (Jvm.hb hby hd))
    hf (fun h' W' => K h' W' (Arv.set A q1 hsz hz hH hG (fits_nar_char _) W' _ rfl hl))
theorem bastore {a : Addr} {kc : ClassId} {z j x : Int32} {vs : List Value} {dv : Value} (hd : decode B pc = .ok (.bastore, 1)) (F : Arv Z h a kc .byte z vs dv) (hj : ¬ j < 0 ∧ j < z) (hf : a ∈ fs) (hl : j.toNatClampNeg < vs.length) (hp : pc + 1 = pc')
    (K : ∀ h', Wr h h' a j.toNatClampNeg (.int (nar .byte x)) → Arv Z h' a kc .byte z (vs.set j.toNatClampNeg (.int (nar .byte x))) dv → Wq l nw Z EL a0 n0 y B ml ret R h0 Post fs h' ce sl pc' L S) : Wq l nw Z EL a0 n0 y B ml ret R h0 Post fs h ce sl pc L (.int x :: .int j :: .ref a :: S) := by
  obtain ⟨cl, A, q1, hsz, hz, hH, hG⟩ := F
  have hin := inb_of hsz hj
  exact wrote (fun hx hby hown hnm hZ hw hT X => by subst hp; exact stB X hx hZ hT A hin (g := mkF _ pc L (.int x :: .int j :: .ref a :: S)) rfl rfl (Jvm.hb hby hd))
    hf (fun h' W' => K h' W' (Arv.set A q1 hsz hz hH hG (fits_nar_byte _) W' _ rfl hl))
theorem iastore {a : Addr} {kc : ClassId} {z j x : Int32} {vs : List Value} {dv : Value} (hd : decode B pc = .ok (.iastore, 1)) (F : Arv Z h a kc .int z vs dv) (hj : ¬ j < 0 ∧ j < z) (hf : a ∈ fs) (hl : j.toNatClampNeg < vs.length) (hp : pc + 1 = pc')
    (K : ∀ h', Wr h h' a j.toNatClampNeg (.int x) → Arv Z h' a kc .int z (vs.set j.toNatClampNeg (.int x)) dv → Wq l nw Z EL a0 n0 y B ml ret R h0 Post fs h' ce sl pc' L S) : Wq l nw Z EL a0 n0 y B ml ret R h0 Post fs h ce sl pc L (.int x :: .int j :: .ref a :: S) := by
  obtain ⟨cl, A, q1, hsz, hz, hH, hG⟩ := F
  have hin := inb_of hsz hj
  exact wrote (fun hx hby hown hnm hZ hw hT X => by subst hp; exact stI X hx hZ hT A hin (g := mkF _ pc L (.int x :: .int j :: .ref a :: S)) rfl rfl (Jvm.hb hby hd))
    hf (fun h' W' => K h' W' (Arv.set A q1 hsz hz hH hG (rfl) W' _ rfl hl))
theorem cloneArr {i1 i2 i3 i4 i5 i6 ix Wd cap : Nat} {ad : String} {a : Addr} {kc : ClassId} {ty : FieldType} {z : Int32} {vs : List Value} {dv : Value} (hd : decode B pc = .ok (.invokevirtual ix, 3)) (w1 : tables_1[i1]? = some (.methodLink y.cls ix ⟨ad, "clone", "()Ljava/lang/Object;"⟩)) (w2 : tables_1[i2]? = some (.sameMethod ad "java/lang/Object" "clone" "()Ljava/lang/Object;")) (w3 : tables_1[i3]? = some (.native ⟨"java/lang/Object", "clone", "()Ljava/lang/Object;"⟩)) (w4 : tables_1[i4]? = some (.instanceMethod ⟨"java/lang/Object", "clone", "()Ljava/lang/Object;"⟩)) (w5 : tables_1[i5]? = some (.selects ad ⟨ad, "clone", "()Ljava/lang/Object;"⟩ ⟨"java/lang/Object", "clone", "()Ljava/lang/Object;"⟩)) (w6 : tables_1[i6]? = some (.castable ad "java/lang/Cloneable"))
    (F : Arv Z h a kc ty z vs dv) (E : Exa Z h a ad) (hsz : L.size = ml) (hfr : 1 ≤ R.frames) (hW : (S.map fun v => v.category).sum ≤ Wd) (hl : Wd + 14 ≤ R.locals) (hcap : z.toNatClampNeg ≤ cap) (hc : ce + 1 ≤ R.cells) (hs : sl + cap ≤ R.slots) (hp : pc + 3 = pc')
    (K : ∀ h' r, r = h.size → Ext h h' → Arv Z h' r kc ty z vs dv → Exa Z h' r ad → Wq l nw Z EL a0 n0 y B ml ret R h0 Post (r :: fs) h' (ce + 1) (sl + cap) pc' L (.ref r :: S)) : Wq l nw Z EL a0 n0 y B ml ret R h0 Post fs h ce sl pc L (.ref a :: S) :=
  grow (P := fun h' => Arv Z h' h.size kc ty z vs dv ∧ Exa Z h' h.size ad) (fun hx hby hown hZ hw hT hml X => by
    subst hp
    obtain ⟨T', h', X', e', Ex, A, E', st⟩ := cloneH X hx hZ hown (wat hw w1) (wat hw w2) (wat hw w3) (wat hw w4) (wat hw w5) (wat hw w6) hT F.arh E (g := mkF _ pc L (.ref a :: S)) rfl (hsz.trans hml.symm) rfl (Jvm.hb hby hd) hfr (W := Wd) (by show 2 * 0 + _ ≤ _; omega) hl hcap hc hs
    exact ⟨T', h', X', e', Ex, ⟨A, E'⟩, st⟩) (fs' := h.size :: fs) (fun x q => (List.mem_cons.mp q).symm) (fun h' _ q => q.1.lt) (fun h' Ex q => K h' _ rfl Ex q.1 q.2)
theorem checkcast {i ix : Nat} {C : String} {a : Addr} (hd : decode B pc = .ok (.checkcast ix, 3)) (w : tables_1[i]? = some (.classLink y.cls ix C)) (F : Ins Z h a C true) (hp : pc + 3 = pc') (K : Wq l nw Z EL a0 n0 y B ml ret R h0 Post fs h ce sl pc' L (.ref a :: S)) : Wq l nw Z EL a0 n0 y B ml ret R h0 Post fs h ce sl pc L (.ref a :: S) :=
  same (fun hx hby hown hZ hw hT _ X => by subst hp; exact castY X hx hZ hown (wat hw w) hT F (g := mkF _ pc L (.ref a :: S)) rfl rfl (Jvm.hb hby hd)) K
theorem checkcastNull {ix : Nat} (hd : decode B pc = .ok (.checkcast ix, 3)) (hp : pc + 3 = pc') (K : Wq l nw Z EL a0 n0 y B ml ret R h0 Post fs h ce sl pc' L (.null :: S)) : Wq l nw Z EL a0 n0 y B ml ret R h0 Post fs h ce sl pc L (.null :: S) :=
  same (fun {p e s m args below meth c T locs} hx hby hown hZ hw hT _ X => by subst hp; exact ⟨T, X, hT, X.checkcastNull hx (g := mkF _ pc L (.null :: S)) rfl rfl (Jvm.hb hby hd)⟩) K
theorem instanceofNull {ix : Nat} (hd : decode B pc = .ok (.instanceof ix, 3)) (hp : pc + 3 = pc') (K : Wq l nw Z EL a0 n0 y B ml ret R h0 Post fs h ce sl pc' L (.int 0 :: S)) : Wq l nw Z EL a0 n0 y B ml ret R h0 Post fs h ce sl pc L (.null :: S) :=
  same (fun {p e s m args below meth c T locs} hx hby hown hZ hw hT _ X => by subst hp; exact ⟨T, X, hT, X.instanceofNull hx (g := mkF _ pc L (.null :: S)) rfl rfl (Jvm.hb hby hd)⟩) K
theorem instanceofY {i ix : Nat} {C : String} {a : Addr} (hd : decode B pc = .ok (.instanceof ix, 3)) (w : tables_1[i]? = some (.classLink y.cls ix C)) (F : Ins Z h a C true) (hp : pc + 3 = pc') (K : Wq l nw Z EL a0 n0 y B ml ret R h0 Post fs h ce sl pc' L (.int 1 :: S)) : Wq l nw Z EL a0 n0 y B ml ret R h0 Post fs h ce sl pc L (.ref a :: S) :=
  same (fun hx hby hown hZ hw hT _ X => by subst hp; exact instY X hx hZ hown (wat hw w) hT F (g := mkF _ pc L (.ref a :: S)) rfl rfl (Jvm.hb hby hd)) K
theorem instanceofN {i ix : Nat} {C D : String} {a : Addr} (hd : decode B pc = .ok (.instanceof ix, 3)) (w : tables_1[i]? = some (.classLink y.cls ix C)) (E : Exa Z h a D) (F : ∃ c t, Z.vm.findClass D = some c ∧ Z.vm.findClass C = some t ∧ Z.vm.assignable c t = false) (hp : pc + 3 = pc') (K : Wq l nw Z EL a0 n0 y B ml ret R h0 Post fs h ce sl pc' L (.int 0 :: S)) : Wq l nw Z EL a0 n0 y B ml ret R h0 Post fs h ce sl pc L (.ref a :: S) :=
  same (fun hx hby hown hZ hw hT _ X => by subst hp; exact instNo X hx hZ hown (wat hw w) hT E F (g := mkF _ pc L (.ref a :: S)) rfl rfl (Jvm.hb hby hd)) K
theorem ldcInt {i ix : Nat} {v : Int32} (hd : decode B pc = .ok (.ldc ix, 2)) (w : tables_1[i]? = some (.constant y.cls ix v)) (hp : pc + 2 = pc') (K : Wq l nw Z EL a0 n0 y B ml ret R h0 Post fs h ce sl pc' L (.int v :: S)) : Wq l nw Z EL a0 n0 y B ml ret R h0 Post fs h ce sl pc L S :=
  same (fun {p e s m args below meth c T locs} hx hby hown hZ hw hT _ X => by subst hp; exact ⟨T, X, hT, X.ldcInt hx hown (mvT hZ (wat hw w)) (g := mkF _ pc L S) rfl (Jvm.hb hby hd)⟩) K
theorem ldc2Long {i ix : Nat} {v : Int64} (hd : decode B pc = .ok (.ldc2_w ix, 3)) (w : tables_1[i]? = some (.constantLong y.cls ix v)) (hp : pc + 3 = pc') (K : Wq l nw Z EL a0 n0 y B ml ret R h0 Post fs h ce sl pc' L (.long v :: S)) : Wq l nw Z EL a0 n0 y B ml ret R h0 Post fs h ce sl pc L S :=
  same (fun {p e s m args below meth c T locs} hx hby hown hZ hw hT _ X => by subst hp; exact ⟨T, X, hT, X.ldc2Long hx hown (mvT hZ (wat hw w)) (g := mkF _ pc L S) rfl (Jvm.hb hby hd)⟩) K
theorem initObj {i i2 i3 ix Wd : Nat} {a : Addr} (hd : decode B pc = .ok (.invokespecial ix, 3)) (w : tables_1[i]? = some (.methodLink y.cls ix Lib.objectInit)) (w2 : tables_1[i2]? = some (.instanceMethod Lib.objectInit)) (w3 : tables_1[i3]? = some (.code Lib.objectInit object_method_1_code 1 none))
    (hsz : L.size = ml) (hfr : 1 ≤ R.frames) (hW : (S.map fun v => v.category).sum ≤ Wd) (hl : Wd + 12 ≤ R.locals) (hp : pc + 3 = pc') (K : Wq l nw Z EL a0 n0 y B ml ret R h0 Post fs h ce sl pc' L S) : Wq l nw Z EL a0 n0 y B ml ret R h0 Post fs h ce sl pc L (.ref a :: S) :=
  same (fun {p e s m args below meth c T locs} hx hby hown hZ hw hT hml X => by
    subst hp
    exact initO X hx hZ hown (wat hw w) (wat hw w2) (wat hw w3) hT (g := mkF _ pc L (.ref a :: S)) rfl (hsz.trans hml.symm) rfl (Jvm.hb hby hd) hfr (W := Wd) (by show 2 * 0 + _ ≤ _; omega) hl) K
/-- ldc of a String constant that EL names, its text read -/
theorem ldcStr {i ix n : Nat} {text : String} {vs : List Value} {z : Int32} (hd : decode B pc = .ok (.ldc ix, 2)) (w : tables_1[i]? = some (.stringLink y.cls ix text)) (hwS : ∀ d ∈ Bundle.stringAtoms, d ∈ tables_1) (hmem : (y.cls, ix) ∈ EL) (hnn : nw = false)
    (ht : (∀ c ∈ text.toList, c.toNat < 256) ∧ text.toList.map (fun c => Value.int (Jvm.Lit.byteI c.toNat.toUInt16)) = vs) (hz : ¬ z < 0) (hl : z.toNatClampNeg = vs.length) (hn : 4 * text.toList.length ≤ n) (hbig : n ≤ 536870912) (hc : ce + 2 ≤ R.cells) (hs : sl + (n + 4) ≤ R.slots) (hp : pc + 2 = pc')
    (K : ∀ h' a b kc, Ext h h' → Exa Z h' a "java/lang/String" → Fld Z h' a "java/lang/String" "coder" "B" (.int 0) → Fld Z h' a "java/lang/String" "value" "[B" (.ref b) → Arv Z h' b kc .byte z vs (.int 0) → (∀ x ∈ fs, x ≠ a ∧ x ≠ b) → Wq l nw Z EL a0 n0 y B ml ret R h0 Post fs h' (ce + 2) (sl + (n + 4)) pc' L (.ref a :: S)) : Wq l nw Z EL a0 n0 y B ml ret R h0 Post fs h ce sl pc L S := fun p e s m args below meth c T locs vm k C => by
  obtain ⟨⟨hx, hby, hml, hret, hlk, hnm, hown, hh0⟩, ⟨hZ, hw, hEL, hnw⟩, X, hT, ⟨hN, hO⟩, ⟨hS, hk⟩, hC, hF⟩ := C
  subst hp
  obtain ⟨a, T', h', k1, b, kc, X', e', E, hS', hk', hZ', hown', A, Co, Va, Ar, -, -, hC', -, hne, st⟩ := ldcCH X hx hZ hown (wat hw w) (fun d q => hw d (hwS d q)) hT hS hk hEL hmem hC.1 ht hz hl (g := mkF _ pc L S) rfl (Jvm.hb hby hd) hn hbig hc hs
  refine (K h' a b kc E A Co Va Ar (fun x r => hne x (hC'.safe (hF x r).2.1 (hF x r).2.2)) p e s m args below meth c T' locs T'.vm k1 ⟨⟨hx, hby, hml, hret, hlk, hnm, hown', hh0⟩, ⟨hZ', hw, hEL, fun q => by rw [hnn] at q; cases q⟩, X', e', ⟨hN, hO.ext E⟩, ⟨hS', hk'⟩, hC.trans hC', fun x r => ⟨(hF x r).1, Nat.lt_of_lt_of_le (hF x r).2.1 E.1, hC'.safe (hF x r).2.1 (hF x r).2.2⟩⟩).st st
/-- ldc of any String constant, nothing said of its text -/
theorem ldcAny {i ix n : Nat} {text : String} (hd : decode B pc = .ok (.ldc ix, 2)) (w : tables_1[i]? = some (.stringLink y.cls ix text)) (hwS : ∀ d ∈ Bundle.stringAtoms, d ∈ tables_1) (hnn : nw = false)
    (hn : 4 * text.toList.length ≤ n) (hbig : n ≤ 536870912) (hc : ce + 2 ≤ R.cells) (hs : sl + (n + 4) ≤ R.slots) (hp : pc + 2 = pc')
    (K : ∀ h' a, Ext h h' → Wq l nw Z EL a0 n0 y B ml ret R h0 Post fs h' (ce + 2) (sl + (n + 4)) pc' L (.ref a :: S)) : Wq l nw Z EL a0 n0 y B ml ret R h0 Post fs h ce sl pc L S := fun p e s m args below meth c T locs vm k C => by
  obtain ⟨⟨hx, hby, hml, hret, hlk, hnm, hown, hh0⟩, ⟨hZ, hw, hEL, hnw⟩, X, hT, ⟨hN, hO⟩, ⟨hS, hk⟩, hC, hF⟩ := C
  subst hp
  obtain ⟨a, T', h', k1, X', e', E, hS', hk', hZ', hown', hC', -, st⟩ := ldcOH X hx hZ hown (wat hw w) (fun d q => hw d (hwS d q)) hT hS hk hEL hC.1 (g := mkF _ pc L S) rfl (Jvm.hb hby hd) hn hbig hc hs
  refine (K h' a E p e s m args below meth c T' locs T'.vm k1 ⟨⟨hx, hby, hml, hret, hlk, hnm, hown', hh0⟩, ⟨hZ', hw, hEL, fun q => by rw [hnn] at q; cases q⟩, X', e', ⟨hN, hO.ext E⟩, ⟨hS', hk'⟩, hC.trans hC', fun x r => ⟨(hF x r).1, Nat.lt_of_lt_of_le (hF x r).2.1 E.1, hC'.safe (hF x r).2.1 (hF x r).2.2⟩⟩).st st
/-- the end of a walk -/
theorem leaves {v : Option Value} (hv : ret = none → v = none) (hc : ce ≤ R.cells) (hs : sl ≤ R.slots) (hP : Post v h) (st : ∀ {p : Program} {e : Env} {s : State} {m : MethodId} {args : Array Value} {below : List Frame} {meth : Method} {c : Code} {T : State} {locs : List Loc} {fs : List Frame}, p.tables.exec = Jvm.exec → c.code = B → meth.sig.returnType = ret →
      Stand p l e R s m args below meth c T locs ce sl → (∀ (f : JFrame) (acts : List Action), f.method = m → f.locked = none → f.entered = [] → (doReturn e (T.setTop f) acts v).1 = T.setFrames fs) → Steps p.tables e below (T.setTop (mkF m pc L S)) (T.setFrames fs)) : Wq l nw Z EL a0 n0 y B ml ret R h0 Post fs h ce sl pc L S := fun p e s m args below meth c T locs vm k C => by
  obtain ⟨⟨hx, hby, hml, hret, hlk, hnm, hown, hh0⟩, ⟨hZ, hw, hEL, hnw⟩, X, hT, ⟨hN, hO⟩, ⟨hS, hk⟩, hC, hF⟩ := C
  obtain ⟨fs', h1, h2, h3, hEnd⟩ := X.leaveW hS (by rw [hT]; exact hk) (v := v) (fun q => hv (hret.symm.trans q)) hlk
  have hwm : (s.setVm vm).WarmedH T.vm := X.warmed
  refine ⟨T.setFrames fs', .returned v, st hx hby hret X h1, h2, h3, v, locs, rfl, ?_, ⟨hN, ?_⟩, ?_, ⟨hEnd.1, hEnd.2.1, hEnd.2.2.1, hEnd.2.2.2.mono hc hs⟩, fun q => ?_⟩
  · show Post v T.heap
    rw [hT]; exact hP
  · show Old Z n0 T.heap
    rw [hT]; exact hO
  · show CHr Z EL s.vm h0 T.vm T.heap
    rw [hT]; exact hC.trans (CHv.at X hZ hEL hC.1)
  · show s.WarmedH T.vm
    obtain ⟨q1, -⟩ := hnw q
    subst q1; exact hwm
theorem retV (hd : decode B pc = .ok (.return_, 1)) (hr : ret = none) (hc : ce ≤ R.cells) (hs : sl ≤ R.slots) (hP : Post none h) : Wq l nw Z EL a0 n0 y B ml ret R h0 Post fs h ce sl pc L [] :=
  leaves (fun _ => rfl) hc hs hP (fun hx hby hret X hl => X.returnOut hx (hret.trans hr) (Jvm.hb hby hd) hl)
theorem retA {v : Value} {t : FieldType} (hd : decode B pc = .ok (.areturn, 1)) (hr : ret = some t) (ht : t.isReference = true) (hv : v.isRef = true) (hc : ce ≤ R.cells) (hs : sl ≤ R.slots) (hP : Post (some v) h) : Wq l nw Z EL a0 n0 y B ml ret R h0 Post fs h ce sl pc L (v :: S) :=
  leaves (fun q => by rw [hr] at q; cases q) hc hs hP (fun hx hby hret X hl => retOut X hx (hret.trans hr) (by rcases ref_cases hv with rfl | ⟨q, rfl⟩ <;> cases t <;> rfl) (Or.inr (Or.inr (Or.inr (Or.inr ⟨rfl, ht, hv⟩)))) (Jvm.hb hby hd) hl)
theorem retI {z : Int32} {t : FieldType} (hd : decode B pc = .ok (.ireturn, 1)) (hr : ret = some t) (ht : t = .int ∨ t = .boolean ∨ t = .byte ∨ t = .char ∨ t = .short) (hn : narrow t (.int z) = .int z) (hc : ce ≤ R.cells) (hs : sl ≤ R.slots) (hP : Post (some (.int z)) h) : Wq l nw Z EL a0 n0 y B ml ret R h0 Post fs h ce sl pc L (.int z :: S) :=
  leaves (fun q => by rw [hr] at q; cases q) hc hs hP (fun hx hby hret X hl => retOut X hx (hret.trans hr) hn (Or.inl ⟨rfl, ht, z, rfl⟩) (Jvm.hb hby hd) hl)
theorem retJ {z : Int64} (hd : decode B pc = .ok (.lreturn, 1)) (hr : ret = some .long) (hc : ce ≤ R.cells) (hs : sl ≤ R.slots) (hP : Post (some (.long z)) h) : Wq l nw Z EL a0 n0 y B ml ret R h0 Post fs h ce sl pc L (.long z :: S) :=
  leaves (fun q => by rw [hr] at q; cases q) hc hs hP (fun hx hby hret X hl => retOut X hx (hret.trans hr) rfl (Or.inr (Or.inl ⟨rfl, rfl, z, rfl⟩)) (Jvm.hb hby hd) hl)
theorem retD {z : UInt64} (hd : decode B pc = .ok (.dreturn, 1)) (hr : ret = some .double) (hc : ce ≤ R.cells) (hs : sl ≤ R.slots) (hP : Post (some (.double z)) h) : Wq l nw Z EL a0 n0 y B ml ret R h0 Post fs h ce sl pc L (.double z :: S) :=
  leaves (fun q => by rw [hr] at q; cases q) hc hs hP (fun hx hby hret X hl => retOut X hx (hret.trans hr) rfl (Or.inr (Or.inr (Or.inl ⟨rfl, rfl, z, rfl⟩))) (Jvm.hb hby hd) hl)
end Rules
section Calls
variable {l : Launch} {nw : Bool} {Z : State} {EL : List (String × Nat)} {a0 : Array Value} {n0 : Nat} {y : MethodName} {B : ByteArray} {ml : Nat} {ret : Option FieldType} {R : Room} {h0 : Heap} {Post : Option Value → Heap → Prop} {fs : List Addr} {h : Heap} {ce sl pc pc' : Nat} {L : Array Slot} {S : List Value}
def Met (l : Launch) (nw : Bool) (Z : State) (EL : List (String × Nat)) (n0 : Nat) (y : MethodName) (B : ByteArray) (ml : Nat) (ret : Option FieldType) (R : Room) (ws : List Jvm.Cond) (as' : Array Value) (fs : List Addr) (h : Heap) (Post : Option Value → Heap → Prop) : Prop :=
  MetFree l y (head1 (Jvm.Cond.code y B ml ret :: ws) R) (fun a U => a = as' ∧ Z.Warmed39 U.vm ∧ U.heap = h ∧ CHv Z EL U.vm h ∧ Old Z n0 h ∧ ∀ x ∈ fs, n0 ≤ x ∧ x < h.size ∧ Safe Z EL U.vm h x) (fun _ _ _ _ _ => True)
    (fun _ U o U' => ∃ v L, o = .returned v ∧ (Post v U'.heap ∧ Fr n0 L ∧ Old Z n0 U'.heap) ∧ CHr Z EL U.vm U.heap U'.vm U'.heap ∧ ReturnedEndW U o U' L R.cells R.slots ∧ (nw = true → U.WarmedH U'.vm))
theorem Met.mono {ws : List Jvm.Cond} {as' : Array Value} {Post' : Option Value → Heap → Prop} (M : Met l nw Z EL n0 y B ml ret R ws as' fs h Post) (hP : ∀ v h', Post v h' → Post' v h') : Met l nw Z EL n0 y B ml ret R ws as' fs h Post' :=
  MetFree.mono M (fun _ _ q => q) (fun _ _ _ _ _ q => q) (fun _ _ _ _ _ ⟨v, L, h1, ⟨h2, h3⟩, h4⟩ => ⟨v, L, h1, ⟨hP v _ h2, h3⟩, h4⟩)
theorem Met.of_body {ws : List Jvm.Cond} {as' : Array Value} {L0 : Array Slot} (hpl : plainFor y = true) (hent : ∀ m, entryFrame m as' ml = mkF m 0 L0 []) (hw : ∀ d ∈ tables_1, d.before a0 Z = true) (hEL : EW Z a0 EL) (hnw : nw = true → EL = [])
    (K : Wq l nw Z EL a0 n0 y B ml ret R h Post fs h 0 0 0 L0 []) : Met l nw Z EL n0 y B ml ret R ws as' fs h Post := by
  refine MetFree.of_bodySF hpl hisR ?_
  intro p e s m args below meth c s₁ Bd hml0 hP hK
  obtain ⟨rfl, hZ, hh, hCv, hO, hF⟩ := hP
  have X0 : Stand p l e R (s.setVm s.vm) m args below meth c s₁ [] 0 0 := Stand.of_body Bd
  have e0 : s₁.heap = h := by rw [← hh, Bd.state]; rfl
  have hml : c.maxLocals = ml := hml0
  obtain ⟨s₂, o, h1, h2, h3, v, L, h4, h5, h6, h7, h8, h9⟩ := K p e s m args below meth c s₁ [] s.vm 0 ⟨⟨Bd.exec, Bd.bytes, hml, Bd.returns, BodyLoose.notSynchronized Bd, (name_of_methodNamed Bd.named Bd.method).1, findClass_of_methodNamed Bd.named, hh⟩, ⟨hZ, hw, hEL, fun q => ⟨rfl, hnw q⟩⟩, X0, e0, ⟨Fr.nil n0, hO⟩, ⟨(State.WarmedH.refl s).since 0, Nat.zero_le _⟩, CHr.refl hCv, hF⟩
  exact ⟨s₂, o, castTop (hent m) h1, h2, h3, v, L, h4, ⟨h5, h6⟩, by rw [hh]; exact h7, h8, h9⟩
def Kd (l : Launch) (Z : State) (a0 : Array Value) (y : MethodName) (B : ByteArray) (ml : Nat) (R : Room) (h : Heap) (ce sl pc : Nat) (L : Array Slot) (S : List Value) (z : MethodName) (len Wd : Nat) (as' : Array Value) (S' : List Value) : Prop :=
  ∀ (p : Program) (e : Env) (s : State) (m : MethodId) (args : Array Value) (below : List Frame) (meth : Method) (c : Code) (T : State) (locs : List Loc), p.tables.exec = Jvm.exec → c.code = B → s.vm.findClass y.cls = some m.cls → Z.Warmed39 s.vm → (∀ d ∈ tables_1, d.before a0 Z = true) → T.heap = h → c.maxLocals = ml → Stand p l e R s m args below meth c T locs ce sl →
    (∀ (Pre : Pt → Array Value → Prop) (Po : Pt → Array Value → Option Value → Pt → Prop), Back l R p e below s args z len Wd Pre Po → (∀ vm₁, s.WarmedH vm₁ → Pre ⟨T.setVm vm₁, locs, ce, sl⟩ as') →
      ∃ (v : Option Value) (vm₁ : Vm) (A : Pt), s.WarmedH vm₁ ∧ Stand p l e R s m args below meth c A.U A.locs A.cells A.slots ∧ Po ⟨T.setVm vm₁, locs, ce, sl⟩ as' v A ∧ ∀ u, Steps p.tables e below (A.U.setTop (mkF m (pc + len) L (v.toList ++ S'))) u → Steps p.tables e below (T.setTop (mkF m pc L S)) u) ∧
    (∀ (Pre : Pt → Array Value → Prop) (Po : Pt → Array Value → Option Value → Pt → Prop), BackS l R p e below s args z len Wd Pre Po → (∀ vm₁, s.WarmedH vm₁ → Pre ⟨T.setVm vm₁, locs, ce, sl⟩ as') →
      ∃ (v : Option Value) (vm₁ : Vm) (A : Pt), s.WarmedH vm₁ ∧ Stand p l e R (s.setVm A.U.vm) m args below meth c A.U A.locs A.cells A.slots ∧ s.Since A.U.vm A.U.heap.size ∧ T.heap.size ≤ A.U.heap.size ∧ Po ⟨T.setVm vm₁, locs, ce, sl⟩ as' v A ∧ ∀ u, Steps p.tables e below (A.U.setTop (mkF m (pc + len) L (v.toList ++ S'))) u → Steps p.tables e below (T.setTop (mkF m pc L S)) u)
theorem kStatic {i i2 i3 i4 ix mlz Wd : Nat} {z : MethodName} {Bz : ByteArray} {retz : Option FieldType} {argsL S' : List Value} {ps : List FieldType} {rz : Option FieldType} (hd : decode B pc = .ok (.invokestatic ix, 3)) (w : tables_1[i]? = some (.methodLink y.cls ix z)) (w2 : tables_1[i2]? = some (.static z)) (w3 : tables_1[i3]? = some (.initialized z.cls)) (w4 : tables_1[i4]? = some (.code z Bz mlz retz))
    (hy : z.cls ≠ "java/lang/invoke/MethodHandle" ∧ z.cls ≠ "java/lang/invoke/VarHandle") (hsz : L.size = ml) (hpd : parseMethodDescriptor z.desc = some ⟨ps, rz⟩) (hlen : argsL.length = ps.length) (hst : S = argsL.reverse ++ S') (hW : (S'.map fun v => v.category).sum ≤ Wd) : Kd l Z a0 y B ml R h ce sl pc L S z 3 Wd argsL.toArray S' :=
  fun p e s m args below meth c T locs hx hby hown hZ hw hT hml X =>
  ⟨fun Pre Po hK hpre => by
    obtain ⟨v, vm₁, A, a1, a2, a3, a4⟩ := Jvm.LawKit.callS X hx hown (mvT hZ (wat hw w)) (mvT hZ (wat hw w2)) (mvT hZ (wat hw w3)) (mvT hZ (wat hw w4)) hy hK (g := mkF m pc L S) rfl (hsz.trans hml.symm) (argsL := argsL) (rest := S') (lenOf hpd hlen) hst (by show 2 * 0 + _ ≤ _; omega) (Jvm.hb hby hd) hpre
    exact ⟨v, vm₁, A, a1, a2, a3, a4⟩,
   fun Pre Po hK hpre => by
    obtain ⟨v, vm₁, A, a1, a2, a3, a4, a5, a6⟩ := callSS X hx hown (mvT hZ (wat hw w)) (mvT hZ (wat hw w2)) (mvT hZ (wat hw w3)) (mvT hZ (wat hw w4)) hy hK (g := mkF m pc L S) rfl (hsz.trans hml.symm) (argsL := argsL) (rest := S') (lenOf hpd hlen) hst (by show 2 * 0 + _ ≤ _; omega) (Jvm.hb hby hd) hpre
    exact ⟨v, vm₁, A, a1, a2, a3, a4, a5, fun u q => a6.trans q⟩⟩
theorem kInit {i i2 i4 ix mlz Wd : Nat} {z : MethodName} {Bz : ByteArray} {argsL S' : List Value} {a : Addr} {ps : List FieldType} {rz : Option FieldType} (hd : decode B pc = .ok (.invokespecial ix, 3)) (hz : z.name = "<init>") (w : tables_1[i]? = some (.methodLink y.cls ix z)) (w2 : tables_1[i2]? = some (.instanceMethod z)) (w4 : tables_1[i4]? = some (.code z Bz mlz none))
    (hy : z.cls ≠ "java/lang/invoke/MethodHandle" ∧ z.cls ≠ "java/lang/invoke/VarHandle") (hsz : L.size = ml) (hpd : parseMethodDescriptor z.desc = some ⟨ps, rz⟩) (hlen : argsL.length = ps.length) (hst : S = argsL.reverse ++ .ref a :: S') (hW : (S'.map fun v => v.category).sum ≤ Wd) : Kd l Z a0 y B ml R h ce sl pc L S z 3 Wd (.ref a :: argsL).toArray S' :=
  fun p e s m args below meth c T locs hx hby hown hZ hw hT hml X =>
  ⟨fun Pre Po hK hpre => by
    obtain ⟨v, vm₁, A, a1, a2, a3, a4⟩ := X.specialBack hx hz hown (mvT hZ (wat hw w)) (mvT hZ (wat hw w2)) (mvT hZ (wat hw w4)) hy hK (g := mkF m pc L S) rfl (hsz.trans hml.symm) (Steps.refl _) (a := a) (argsL := argsL) (rest := S') (lenOf hpd hlen) hst (by show 2 * 0 + _ ≤ _; omega) (Jvm.hb hby hd) hpre
    exact ⟨v, vm₁, A, a1, a2, a3, fun u q => a4.trans q⟩,
   fun Pre Po hK hpre => by
    obtain ⟨v, vm₁, A, a1, a2, a3, a4, a5, a6⟩ := X.specialBackS hx hz hown (mvT hZ (wat hw w)) (mvT hZ (wat hw w2)) (mvT hZ (wat hw w4)) hy hK (g := mkF m pc L S) rfl (hsz.trans hml.symm) (Steps.refl _) (a := a) (argsL := argsL) (rest := S') (lenOf hpd hlen) hst (by show 2 * 0 + _ ≤ _; omega) (Jvm.hb hby hd) hpre
    exact ⟨v, vm₁, A, a1, a2, a3, a4, a5, fun u q => a6.trans q⟩⟩
theorem kVirt {i i2 i3 i4 ix Wd : Nat} {z : MethodName} {C : String} {argsL S' : List Value} {a : Addr} {ps : List FieldType} {rz : Option FieldType} (hd : decode B pc = .ok (.invokevirtual ix, 3)) (w : tables_1[i]? = some (.methodLink y.cls ix z)) (w2 : tables_1[i2]? = some (.declares z)) (w3 : tables_1[i3]? = some (.selects C z z)) (w4 : tables_1[i4]? = some (.instanceMethod z)) (E : Exa Z h a C)
    (hy : z.cls ≠ "java/lang/invoke/MethodHandle" ∧ z.cls ≠ "java/lang/invoke/VarHandle") (hsz : L.size = ml) (hpd : parseMethodDescriptor z.desc = some ⟨ps, rz⟩) (hlen : argsL.length = ps.length) (hst : S = argsL.reverse ++ .ref a :: S') (hW : (S'.map fun v => v.category).sum ≤ Wd) : Kd l Z a0 y B ml R h ce sl pc L S z 3 Wd (.ref a :: argsL).toArray S' :=
  fun p e s m args below meth c T locs hx hby hown hZ hw hT hml X => by
  obtain ⟨cB, kB, q1, q2, q3⟩ := isOf (s := s) (T := T) hZ hT E
  refine ⟨fun Pre Po hK hpre => ?_, fun Pre Po hK hpre => ?_⟩
  · obtain ⟨v, vm₁, A, a1, a2, a3, a4⟩ := X.virtualBack hx hown (mvT hZ (wat hw w)) (mvT hZ (wat hw w2)) (notFace_of_selects (args := #[]) (mvT hZ (wat hw w3))) (mvT hZ (wat hw w3)) (mvT hZ (wat hw w4)) hy hK q1 q3 (g := mkF m pc L S) rfl (hsz.trans hml.symm) (Steps.refl _) (argsL := argsL) (rest := S') (lenOf hpd hlen) hst (by show 2 * 0 + _ ≤ _; omega) (Jvm.hb hby hd) hpre
    exact ⟨v, vm₁, A, a1, a2, a3, fun u q => a4.trans q⟩
  · obtain ⟨v, vm₁, A, a1, a2, a3, a4, a5, a6⟩ := X.virtualBackS hx hown (mvT hZ (wat hw w)) (mvT hZ (wat hw w2)) (notFace_of_selects (args := #[]) (mvT hZ (wat hw w3))) (mvT hZ (wat hw w3)) (mvT hZ (wat hw w4)) hy hK q1 q3 (g := mkF m pc L S) rfl (hsz.trans hml.symm) (Steps.refl _) (argsL := argsL) (rest := S') (lenOf hpd hlen) hst (by show 2 * 0 + _ ≤ _; omega) (Jvm.hb hby hd) hpre
    exact ⟨v, vm₁, A, a1, a2, a3, a4, a5, fun u q => a6.trans q⟩
theorem nilBk {vm : Vm} {x : Addr} : Safe Z [] vm h x := fun ⟨_, q, _⟩ => nomatch q
theorem nilCHv {vm : Vm} : CHv Z [] vm h := fun _ q => nomatch q
theorem nilCHr {vm vm1 : Vm} {h' : Heap} (q : h.size ≤ h'.size) : CHr Z [] vm h vm1 h' := ⟨nilCHv, q, fun _ ⟨_, r, _⟩ => nomatch r⟩
/-- a callee by its contract, as the library's calls take it -/
theorem Met.backS {p : Program} {e : Env} {below : List Frame} {s : State} {args : Array Value} {vm : Vm} {z : MethodName} {Bz : ByteArray} {mlz len Wd : Nat} {retz : Option FieldType} {Rz : Room} {as' : Array Value} {fs' : List Addr} {Pz : Option Value → Heap → Prop}
    (M : Met l nw Z EL n0 z Bz mlz retz Rz [] as' fs' h Pz) (hZ : Z.Warmed39 vm) (wc : (Jvm.Cond.code z Bz mlz retz).before a0 Z = true) (wz : (Jvm.Cond.initialized z.cls).before a0 Z = true) (hf : Rz.frames + 1 ≤ R.frames) (hl : Wd + (mlz + 11) + Rz.locals ≤ R.locals) (hEL : EW Z a0 EL) (H : CHv Z EL vm h) (hO : Old Z n0 h) (hF : ∀ x ∈ fs', n0 ≤ x ∧ x < h.size ∧ Safe Z EL vm h x) :
    BackS l R p e below (s.setVm vm) args z len Wd (fun A a => a = as' ∧ A.U.heap = h ∧ A.cells + Rz.cells ≤ R.cells ∧ A.slots + Rz.slots ≤ R.slots)
      (fun A _ v A' => ∃ Lo, (Pz v A'.U.heap ∧ Fr n0 Lo ∧ Old Z n0 A'.U.heap) ∧ A'.locs = A.locs ++ Lo ∧ A'.cells = A.cells + Rz.cells ∧ A'.slots = A.slots + Rz.slots ∧ CHr Z EL vm h A'.U.vm A'.U.heap) :=
  BackS.of_freeW (bytes := Bz) (maxL := mlz) (ret := retz) (E := fun _ first o t Lo k n => k = Rz.cells ∧ n = Rz.slots ∧ (∃ v, o = .returned v ∧ Pz v t.heap ∧ Fr n0 Lo ∧ Old Z n0 t.heap) ∧ CHr Z EL first.vm first.heap t.vm t.heap) M hf hl
    (fun m meth c A a Y hp => have hU : Z.Warmed39 A.U.vm := wtrans (s := s.setVm vm) hZ Y.warmed
      ⟨by show (Cond.and _ .tt).before a A.U = true; rw [Cond.before_and, mv hU wc]; rfl, mv hU wc, mv hU wz, hp.2.2.1, hp.2.2.2⟩)
    (fun m meth c A a g mk Y hp => ⟨hp.1, wtrans (s := s.setVm vm) hZ Y.warmed, hp.2.1, (CHv.at Y hZ hEL H).1, hO, fun x q => ⟨(hF x q).1, (hF x q).2.1, (CHv.at Y hZ hEL H).safe (hF x q).2.1 (hF x q).2.2⟩⟩) (fun _ _ _ _ _ _ _ _ _ => trivial)
    (fun _ _ _ _ ⟨v, Lo, h1, h2, h3, h4, _⟩ => ⟨Lo, _, _, h4, rfl, rfl, ⟨v, h1, h2⟩, h3⟩)
    (fun m meth c A a g mk v t Lo k n Y hp _ _ ⟨e1, e2, ⟨v', e3, e4⟩, e5⟩ => by
      cases e3; subst e1 e2
      refine ⟨Lo, e4, rfl, rfl, rfl, (CHv.at Y hZ hEL H).trans ?_⟩
      rw [← hp.2.1]; exact e5)
theorem call {i i2 : Nat} {z : MethodName} {Bz : ByteArray} {mlz len Wd : Nat} {retz : Option FieldType} {Rz : Room} {as' : Array Value} {fs' : List Addr} {Pz : Option Value → Heap → Prop} {S' : List Value} (kd : Kd l Z a0 y B ml R h ce sl pc L S z len Wd as' S') (M : Met l nw Z EL n0 z Bz mlz retz Rz [] as' fs' h Pz) (wc : tables_1[i]? = some (.code z Bz mlz retz)) (wz : tables_1[i2]? = some (.initialized z.cls))
    (hfs : ∀ x ∈ fs', x ∈ fs) (hf : Rz.frames + 1 ≤ R.frames) (hl : Wd + (mlz + 11) + Rz.locals ≤ R.locals) (hc : ce + Rz.cells ≤ R.cells) (hs : sl + Rz.slots ≤ R.slots) (hp : pc + len = pc')
    (K : ∀ v h', Pz v h' → h.size ≤ h'.size → Wq l nw Z EL a0 n0 y B ml ret R h0 Post fs h' (ce + Rz.cells) (sl + Rz.slots) pc' L (v.toList ++ S')) : Wq l nw Z EL a0 n0 y B ml ret R h0 Post fs h ce sl pc L S := fun p e s m args below meth c T locs vm k C => by
  obtain ⟨⟨hx, hby, hml, hret, hlk, hnm, hown, hh0⟩, ⟨hZ, hw, hEL, hnw⟩, X, hT, ⟨hN, hO⟩, ⟨hS, hk⟩, hC, hF⟩ := C
  subst hp
  cases hq : nw with
  | true =>
    obtain ⟨q1, rfl⟩ := hnw hq
    have M' : MetFree l z (head1 [Jvm.Cond.code z Bz mlz retz] Rz) (fun a U => a = as' ∧ Z.Warmed39 U.vm ∧ U.heap = h) (fun _ _ _ _ _ => True) (fun _ U o U' => ∃ v Lo, o = .returned v ∧ (Pz v U'.heap ∧ Fr n0 Lo ∧ Old Z n0 U'.heap ∧ h.size ≤ U'.heap.size) ∧ FrameEnd U o U' Lo Rz.cells Rz.slots) :=
      MetFree.mono M (fun a U q => ⟨q.1, q.2.1, q.2.2, nilCHv, hO, fun x r => ⟨(hF x (hfs x r)).1, (hF x (hfs x r)).2.1, nilBk⟩⟩) (fun _ _ _ _ _ q => q) (fun a U o U' hP ⟨v, Lo, h1, h2, h3, h4, h5⟩ => ⟨v, Lo, h1, ⟨h2.1, h2.2.1, h2.2.2, by have := h3.2.1; rw [hP.2.2] at this; exact this⟩, ⟨v, h1⟩, h5 hq, h4.2.2.2⟩)
    obtain ⟨v, vm₁, ⟨T', L', c', n'⟩, -, X', ⟨Lo, ⟨hP, hN', hO', hsz⟩, l1, l2, l3⟩, st⟩ := (kd p e (s.setVm vm) m args below meth c T locs hx hby hown hZ hw hT hml X).1 _ _ (backOf (W := Wd) (s := s.setVm vm) (Q := fun v h' Lo => Pz v h' ∧ Fr n0 Lo ∧ Old Z n0 h' ∧ h.size ≤ h'.size) M' hZ (wat hw wc) (wat hw wz) hf hl) (fun vm₁ _ => ⟨rfl, hT, hc, hs⟩)
    dsimp only [Pt.U, Pt.locs, Pt.cells, Pt.slots] at X' hP hO' hsz l1 l2 l3 st
    subst l1 l2 l3
    have := K v T'.heap hP hsz p e s m args below meth c T' _ vm k ⟨⟨hx, hby, hml, hret, hlk, hnm, hown, hh0⟩, ⟨hZ, hw, hEL, hnw⟩, X', rfl, ⟨hN.app hN', hO'⟩, ⟨hS, Nat.le_trans hk hsz⟩, nilCHr (Nat.le_trans hC.2.1 hsz), fun x r => ⟨(hF x r).1, Nat.lt_of_lt_of_le (hF x r).2.1 hsz, nilBk⟩⟩
    rw [hq] at this
    exact this.st st
  | false =>
    obtain ⟨v, vm₁, ⟨T', L', c', n'⟩, -, X', hS', hsz, ⟨Lo, ⟨hP, hN', hO'⟩, l1, l2, l3, hC'⟩, st⟩ := (kd p e (s.setVm vm) m args below meth c T locs hx hby hown hZ hw hT hml X).2 _ _ (Met.backS (R := R) (Wd := Wd) (a0 := a0) M hZ (wat hw wc) (wat hw wz) hf hl hEL hC.1 hO (fun x r => hF x (hfs x r))) (fun vm₁ _ => ⟨rfl, hT, hc, hs⟩)
    dsimp only [Pt.U, Pt.locs, Pt.cells, Pt.slots] at X' hP hO' hS' hsz l1 l2 l3 hC' st
    subst l1 l2 l3
    have hsz' : h.size ≤ T'.heap.size := by rw [← hT]; exact hsz
    have hW2 : (s.setVm vm).Warmed39 T'.vm := hS'.1
    have hZ' : Z.Warmed39 T'.vm := State.Warmed39.trans (t := s.setVm vm) hZ hW2
    have := K v T'.heap hP hsz' p e s m args below meth c T' _ T'.vm T'.heap.size ⟨⟨hx, hby, hml, hret, hlk, hnm, by rw [hW2.alike.findClass]; exact hown, hh0⟩, ⟨hZ', hw, hEL, fun q => by rw [hq] at q; cases q⟩, X', rfl, ⟨hN.app hN', hO'⟩, ⟨hS.trans hS' (Nat.le_trans hk hsz'), Nat.le_refl _⟩, hC.trans hC', fun x r => ⟨(hF x r).1, Nat.lt_of_lt_of_le (hF x r).2.1 hsz', hC'.safe (hF x r).2.1 (hF x r).2.2⟩⟩
    rw [hq] at this
    exact this.st st
/-- a callee by a law of the library's (or pasted) shape -/
theorem callB {z : MethodName} {len Wd kc ks : Nat} {as' : Array Value} {Qb : Option Value → Heap → List Loc → Prop} {S' : List Value} {ws : List Addr} (kd : Kd l Z a0 y B ml R h ce sl pc L S z len Wd as' S')
    (hK : ∀ {p : Program} {e : Env} {below : List Frame} {s : State} {args : Array Value}, Z.Warmed39 s.vm → (∀ d ∈ tables_1, d.before a0 Z = true) → Back l R p e below s args z len Wd (fun A a => a = as' ∧ A.U.heap = h ∧ A.cells + kc ≤ R.cells ∧ A.slots + ks ≤ R.slots) (fun A _ v A' => ∃ Lo, Qb v A'.U.heap Lo ∧ A'.locs = A.locs ++ Lo ∧ A'.cells = A.cells + kc ∧ A'.slots = A.slots + ks))
    (hws : ∀ x ∈ ws, x ∈ fs) (hQ : ∀ v h' Lo, Qb v h' Lo → Fr n0 Lo ∧ Keep h h' ws) (hc : ce + kc ≤ R.cells) (hs : sl + ks ≤ R.slots) (hp : pc + len = pc')
    (K : ∀ v h' Lo, Qb v h' Lo → Wq l nw Z EL a0 n0 y B ml ret R h0 Post fs h' (ce + kc) (sl + ks) pc' L (v.toList ++ S')) : Wq l nw Z EL a0 n0 y B ml ret R h0 Post fs h ce sl pc L S := fun p e s m args below meth c T locs vm k C => by
  obtain ⟨⟨hx, hby, hml, hret, hlk, hnm, hown, hh0⟩, ⟨hZ, hw, hEL, hnw⟩, X, hT, ⟨hN, hO⟩, ⟨hS, hk⟩, hC, hF⟩ := C
  subst hp
  obtain ⟨v, vm₁, ⟨T', L', c', n'⟩, -, X', ⟨Lo, hP, l1, l2, l3⟩, st⟩ := (kd p e (s.setVm vm) m args below meth c T locs hx hby hown hZ hw hT hml X).1 _ _ (hK (s := s.setVm vm) hZ hw) (fun vm₁ _ => ⟨rfl, hT, hc, hs⟩)
  dsimp only [Pt.U, Pt.locs, Pt.cells, Pt.slots] at X' hP l1 l2 l3 st
  subst l1 l2 l3
  obtain ⟨hN', hKp⟩ := hQ v _ Lo hP
  have hsf : ∀ x ∈ ws, Safe Z EL vm h x := fun x r => (hF x (hws x r)).2.2
  exact (K v T'.heap Lo hP p e s m args below meth c T' _ vm k ⟨⟨hx, hby, hml, hret, hlk, hnm, hown, hh0⟩, ⟨hZ, hw, hEL, hnw⟩, X', rfl, ⟨hN.app hN', hO.keep hKp (fun x r => (hF x (hws x r)).1)⟩, ⟨hS, Nat.le_trans hk hKp.1⟩, hC.trans (CHr.keep hKp hsf hC.1), fun x r => ⟨(hF x r).1, Nat.lt_of_lt_of_le (hF x r).2.1 hKp.1, Safe.keep hKp hsf hC.1 (hF x r).2.2⟩⟩).st st
end Calls
end Ow
end Jvm.Pilot.@@N@@
namespace Jvm.Pilot.@@N@@
open Jvm Jvm.ClassFile Sem Op Lib Jvm.Free Jvm.Stand Jvm.LawKit Jvm.RoadKit Bundle Jvm.Pilot.@@N@@.Jvm.D
namespace Ow
abbrev ST : String := "java/lang/String"
/-- the sets: compact strings are on; the formatter is a reference -/
def Sets (Z : State) : Prop := ∃ (zc : Int32) (fm : Value), Sta Z Z.heap ST "COMPACT_STRINGS" "Z" (.int zc) ∧ ¬ zc = 0 ∧ Sta Z Z.heap "jdk/internal/util/Preconditions" "SIOOBE_FORMATTER" "Ljava/util/function/BiFunction;" fm ∧ fm.isRef = true
abbrev lat (cs : List Int32) : List Value := (cs.map fun c => c.toInt8.toInt32).map Value.int
/-- a String of the chars cs, each 0 to 255 -/
def Str (Z : State) (h : Heap) (a : Addr) (cs : List Int32) : Prop := Exa Z h a ST ∧ Fld Z h a ST "coder" "B" (.int 0) ∧ (∃ (t : Addr) (kb : ClassId), Fld Z h a ST "value" "[B" (.ref t) ∧ Arv Z h t kb .byte (Int32.ofNat cs.length) (lat cs) (.int 0)) ∧ (∀ c ∈ cs, ¬ c < 0 ∧ ¬ (255 : Int32) < c) ∧ cs.length ≤ 4000
section StrFacts
variable {Z : State} {h h' : Heap} {a x : Addr} {cs : List Int32} {C : String} {a0 : Array Value} {k : Nat}
theorem Str.exa (F : Str Z h a cs) : Exa Z h a ST := F.1
theorem Str.lt (F : Str Z h a cs) : a < h.size := F.1.lt
theorem Str.ext (F : Str Z h a cs) (E : Ext h h') : Str Z h' a cs := by
  obtain ⟨e, c, ⟨t, kb, v, ar⟩, r⟩ := F
  exact ⟨e.ext E, c.ext E, ⟨t, kb, v.ext E, ar.ext E⟩, r⟩
theorem Str.keep1 (F : Str Z h a cs) (K : Keep h h' [x]) (ne : a ≠ x) (E : Exa Z h x C) (w : (Jvm.Cond.instantiable C k).before a0 Z = true) : Str Z h' a cs := by
  obtain ⟨e, c, ⟨t, kb, v, ar⟩, r⟩ := F
  have q : t ≠ x := Ne.symm (E.neArv ar w)
  exact ⟨e.keep K, c.keep K (ninS ne nin0), ⟨t, kb, v.keep K (ninS ne nin0), ar.keep K (ninS q nin0)⟩, r⟩
theorem up (h : ∀ c ∈ cs, ¬ c < 0 ∧ ¬ (255 : Int32) < c) : ∀ c ∈ cs, ¬ c < 0 ∧ ¬ (65535 : Int32) < c := fun c hc => ⟨(h c hc).1, fun q => (h c hc).2 (by rw [Int32.lt_iff_toInt_lt] at q ⊢; have e1 : (65535 : Int32).toInt = 65535 := rfl; have e2 : (255 : Int32).toInt = 255 := rfl; omega)⟩
theorem keepExt (K : Keep h h' []) : Ext h h' := ⟨K.1, fun q c r => K.2.1 q c r nin0⟩
theorem Str.wr1 {sl : Nat} {v : Value} (F : Str Z h a cs) (K : Wr h h' x sl v) (ne : a ≠ x) (E : Exa Z h x C) (w : (Jvm.Cond.instantiable C k).before a0 Z = true) : Str Z h' a cs := F.keep1 (Keep.of_wr K) ne E w
end StrFacts
section StrRules
variable {l : Launch} {nw : Bool} {Z : State} {EL : List (String × Nat)} {a0 : Array Value} {n0 : Nat} {y : MethodName} {B : ByteArray} {ml : Nat} {ret : Option FieldType} {R : Room} {h0 : Heap} {Post : Option Value → Heap → Prop} {fs : List Addr} {h : Heap} {ce sl pc pc' : Nat} {L : Array Slot} {S S' : List Value}
/-- new String(chars): the call of the constructor, a char[] of 1 to 4,000 chars, each 0 to 255 -/
theorem strNew {i Wd n : Nat} {x b : Addr} {kC : ClassId} {cs : List Int32} {d v0 c0 : Value} {N : Int32} (hB : Sets Z) (hws : ∀ d ∈ StrChars.Road.words, d ∈ tables_1) (wi : tables_1[i]? = some (.instantiable ST 4)) (kd : Kd l Z a0 y B ml R h ce sl pc L S (⟨"java/lang/String", "<init>", "([C)V"⟩ : MethodName) 3 Wd #[.ref x, .ref b] S')
    (E : Exa Z h x ST) (Vf : Fld Z h x ST "value" "[B" v0) (Cf : Fld Z h x ST "coder" "B" c0) (A : Arv Z h b kC .char N (cs.map Value.int) d) (hn : cs.length = n) (hN : N = Int32.ofNat n) (l0 : 0 < n) (l2 : n ≤ 4000) (hp : ∀ c ∈ cs, ¬ c < 0 ∧ ¬ (255 : Int32) < c) (hx : x ∈ fs)
    (hfr : 4 ≤ R.frames) (hlo : Wd + 65 ≤ R.locals) (hc : ce + 1 ≤ R.cells) (hs : sl + n ≤ R.slots) (hpc : pc + 3 = pc') (K : ∀ h', Keep h h' [x] → Str Z h' x cs → Wq l nw Z EL a0 n0 y B ml ret R h0 Post fs h' (ce + 1) (sl + n) pc' L S') : Wq l nw Z EL a0 n0 y B ml ret R h0 Post fs h ce sl pc L S := by
  obtain ⟨zc, fm, Cs, hz, -, -⟩ := hB
  refine old fun O _ => fsz fun F => ?_
  refine callB (ws := [x]) (kc := 1) (ks := n) (Qb := StrChars.Road.QV Z x N (cs.map fun c => c.toInt8.toInt32) h n0) kd (fun hZ hw => StrChars.Road.backV (W := Wd) hZ (fun d q => hw d (hws d q)) (kI := 4) (wat hw wi) (F x hx).1 (by have := O.2.1; rw [O.1] at this; exact this) E Vf Cf A (Cs.ext O.2) hz hn hN l0 l2 hp rfl hfr hlo)
    (fun z q => by cases List.mem_singleton.mp q; exact hx) (fun v h' Lo q => ⟨q.2.1, q.2.2.1⟩) hc hs hpc (fun v h' Lo q => ?_)
  obtain ⟨rfl, -, q3, q4, q5, t, kb, -, -, -, q6, q7⟩ := q
  exact K h' q3 ⟨q4, q5, ⟨t, kb, q6, by rw [hn, ← hN]; exact q7⟩, hp, by omega⟩
theorem strEq {i Wd : Nat} {x z : Addr} {cs ds : List Int32} (hB : Sets Z) (hws : ∀ d ∈ StrChars.Road.wordsEq, d ∈ tables_1) (wi : tables_1[i]? = some (.instantiable ST 4)) (kd : Kd l Z a0 y B ml R h ce sl pc L S (⟨"java/lang/String", "equals", "(Ljava/lang/Object;)Z"⟩ : MethodName) 3 Wd #[.ref x, .ref z] S')
    (F : Str Z h x cs) (G : Str Z h z ds) (hfr : 2 ≤ R.frames) (hlo : Wd + 28 ≤ R.locals) (hc : ce ≤ R.cells) (hs : sl ≤ R.slots) (hpc : pc + 3 = pc') (K : ∀ b : Int32, ((b = 1 ∧ cs = ds) ∨ (b = 0 ∧ ¬ cs = ds)) → Wq l nw Z EL a0 n0 y B ml ret R h0 Post fs h ce sl pc' L (.int b :: S')) : Wq l nw Z EL a0 n0 y B ml ret R h0 Post fs h ce sl pc L S := by
  obtain ⟨zc, fm, Cs, hz, -, -⟩ := hB
  obtain ⟨e, c, ⟨t, kb, v, ar⟩, hp, l2⟩ := F
  obtain ⟨e', c', ⟨t', kb', v', ar'⟩, hp', l2'⟩ := G
  refine old fun O _ => ?_
  refine callB (ws := []) (kc := 0) (ks := 0) (Qb := fun v h' Lo => ((v = some (.int 1) ∧ cs = ds) ∨ (v = some (.int 0) ∧ ¬ cs = ds)) ∧ Lo = [] ∧ h' = h) kd (fun hZ hw => StrChars.Road.eqW (W := Wd) hZ (fun d q => hw d (hws d q)) (kI := 4) (wat hw wi) e v c ar (StrChars.Road.codOf rfl fun c q => (hp c q).2) (up hp) l2 e' v' c' ar' (StrChars.Road.codOf rfl fun c q => (hp' c q).2) (up hp') l2' (Cs.ext O.2) hz hfr hlo)
    (fun z q => nomatch q) (fun v h' Lo q => by obtain ⟨-, rfl, rfl⟩ := q; exact ⟨Fr.nil _, Keep.refl _ _⟩) hc hs hpc (fun v h' Lo q => ?_)
  obtain ⟨q, rfl, rfl⟩ := q
  rcases q with ⟨rfl, q⟩ | ⟨rfl, q⟩
  · exact K 1 (Or.inl ⟨rfl, q⟩)
  · exact K 0 (Or.inr ⟨rfl, q⟩)
end StrRules
end Ow
end Jvm.Pilot.@@N@@
namespace Jvm.Pilot.@@N@@
open Jvm Jvm.ClassFile Sem Op Lib Jvm.Free Jvm.Stand Jvm.LawKit Jvm.RoadKit Bundle Jvm.Pilot.@@N@@.Jvm.D
namespace Ow
/-! an object of C is no K, K a class that can be made -/
theorem ns_root {Z : State} {a0 : Array Value} {O K : String} {n : Nat} (w : (Cond.noSuperclass O).before a0 Z = true) (wk : (Cond.instantiable K n).before a0 Z = true) (hn : O ≠ K) : NS Z O K := by
  obtain ⟨c, k, h1, h2, h3, -, -⟩ := Cond.noSuperclass_spec w
  obtain ⟨t, kt, g1, -⟩ := Cond.instantiable_spec wk
  have ne := ids_ne h1 g1 hn
  refine ⟨c, t, h1, g1, fun fuel => ?_⟩
  cases fuel with
  | zero => rfl
  | succ f => simp [Vm.isSubclassAux, ne, h2, h3]
theorem ns_no {Z : State} {a0 : Array Value} {C S K : String} {n : Nat} (w : (Cond.superclass C S).before a0 Z = true) (wk : (Cond.instantiable K n).before a0 Z = true) (N : NS Z C K) (hn : C ≠ K) : ∃ c t, Z.vm.findClass C = some c ∧ Z.vm.findClass K = some t ∧ Z.vm.assignable c t = false := by
  obtain ⟨c, t, h0, g0, n3⟩ := N
  obtain ⟨p, k, kp, h1, h2, h3, h4, h5, -, h7⟩ := Cond.superclass_spec h0 w
  obtain ⟨t', k', g1, g2, g5, g7, -⟩ := Cond.instantiable_spec wk
  cases g0.symm.trans g1
  have ne := ids_ne h0 g0 hn
  have gi : k'.isInterface = false := by
    cases hq : k'.isInterface with
    | false => rfl
    | true => simp [hq] at g7
  refine ⟨c, t, h0, g0, ?_⟩
  show Z.vm.assignableAux (255 + 1) c t = false
  simp [Vm.assignableAux, ne, h2, g2, h5, g5, gi, Vm.isSubclass, n3]
theorem both {Q Q' : Prop} {r e : Int32} (h1 : (r = 1 ∧ Q) ∨ (r = 0 ∧ ¬ Q)) (h2 : (e = 1 ∧ Q') ∨ (e = 0 ∧ ¬ Q')) (hq : Q ↔ Q') : r = e := by
  rcases h1 with ⟨rfl, a⟩ | ⟨rfl, a⟩ <;> rcases h2 with ⟨rfl, b⟩ | ⟨rfl, b⟩
  · rfl
  · exact absurd (hq.mp a) b
  · exact absurd (hq.mpr b) a
  · rfl
theorem yes {Q : Prop} {r : Int32} (h1 : (r = 1 ∧ Q) ∨ (r = 0 ∧ ¬ Q)) (hq : Q) : r = 1 := by
  rcases h1 with ⟨rfl, a⟩ | ⟨rfl, a⟩
  · rfl
  · exact absurd hq a
end Ow
end Jvm.Pilot.@@N@@
namespace Jvm.Pilot.@@N@@
open Jvm Jvm.ClassFile Sem Op Lib Jvm.Free Jvm.Stand Jvm.LawKit Jvm.RoadKit Bundle Jvm.Pilot.@@N@@.Jvm.D Ow
theorem d_jdk_42_method_149_0 : decode jdk_42_method_149_code 0 = .ok (.aload_n 0, 1) := by decide +kernel
theorem d_jdk_42_method_149_1 : decode jdk_42_method_149_code 1 = .ok (.invokespecial 1, 3) := by decide +kernel
theorem d_jdk_42_method_149_4 : decode jdk_42_method_149_code 4 = .ok (.iload_n 3, 1) := by decide +kernel
theorem d_jdk_42_method_149_5 : decode jdk_42_method_149_code 5 = .ok (.ifCond .ne 22, 3) := by decide +kernel
theorem d_jdk_42_method_149_8 : decode jdk_42_method_149_code 8 = .ok (.aload_n 0, 1) := by decide +kernel
theorem d_jdk_42_method_149_9 : decode jdk_42_method_149_code 9 = .ok (.ldc 7, 2) := by decide +kernel
theorem d_jdk_42_method_149_11 : decode jdk_42_method_149_code 11 = .ok (.getfield 9, 3) := by decide +kernel
theorem d_jdk_42_method_149_14 : decode jdk_42_method_149_code 14 = .ok (.putfield 9, 3) := by decide +kernel
theorem d_jdk_42_method_149_17 : decode jdk_42_method_149_code 17 = .ok (.aload_n 0, 1) := by decide +kernel
theorem d_jdk_42_method_149_18 : decode jdk_42_method_149_code 18 = .ok (.ldc 7, 2) := by decide +kernel
theorem d_jdk_42_method_149_20 : decode jdk_42_method_149_code 20 = .ok (.getfield 15, 3) := by decide +kernel
theorem d_jdk_42_method_149_23 : decode jdk_42_method_149_code 23 = .ok (.putfield 15, 3) := by decide +kernel
theorem d_jdk_42_method_149_26 : decode jdk_42_method_149_code 26 = .ok (.return_, 1) := by decide +kernel
theorem d_jdk_42_method_3_0 : decode jdk_42_method_3_code 0 = .ok (.aload_n 0, 1) := by decide +kernel
theorem d_jdk_42_method_3_1 : decode jdk_42_method_3_code 1 = .ok (.aload_n 1, 1) := by decide +kernel
theorem d_jdk_42_method_3_2 : decode jdk_42_method_3_code 2 = .ok (.iconst 0, 1) := by decide +kernel
theorem d_jdk_42_method_3_3 : decode jdk_42_method_3_code 3 = .ok (.aload_n 1, 1) := by decide +kernel
theorem d_jdk_42_method_3_4 : decode jdk_42_method_3_code 4 = .ok (.arraylength, 1) := by decide +kernel
theorem d_jdk_42_method_3_5 : decode jdk_42_method_3_code 5 = .ok (.aconst_null, 1) := by decide +kernel
theorem d_jdk_42_method_3_6 : decode jdk_42_method_3_code 6 = .ok (.invokespecial 27, 3) := by decide +kernel
theorem d_jdk_42_method_3_9 : decode jdk_42_method_3_code 9 = .ok (.return_, 1) := by decide +kernel
theorem d_method_3_0 : decode method_3_code 0 = .ok (.iload_n 0, 1) := by decide +kernel
theorem d_method_3_1 : decode method_3_code 1 = .ok (.sipush 255, 3) := by decide +kernel
theorem d_method_3_4 : decode method_3_code 4 = .ok (.iand, 1) := by decide +kernel
theorem d_method_3_5 : decode method_3_code 5 = .ok (.i2c, 1) := by decide +kernel
theorem d_method_3_6 : decode method_3_code 6 = .ok (.istore_n 2, 1) := by decide +kernel
theorem d_method_3_7 : decode method_3_code 7 = .ok (.iload_n 0, 1) := by decide +kernel
theorem d_method_3_8 : decode method_3_code 8 = .ok (.bipush 8, 2) := by decide +kernel
theorem d_method_3_10 : decode method_3_code 10 = .ok (.iushr, 1) := by decide +kernel
theorem d_method_3_11 : decode method_3_code 11 = .ok (.sipush 255, 3) := by decide +kernel
theorem d_method_3_14 : decode method_3_code 14 = .ok (.iand, 1) := by decide +kernel
theorem d_method_3_15 : decode method_3_code 15 = .ok (.i2c, 1) := by decide +kernel
theorem d_method_3_16 : decode method_3_code 16 = .ok (.istore_n 3, 1) := by decide +kernel
theorem d_method_3_17 : decode method_3_code 17 = .ok (.iload_n 0, 1) := by decide +kernel
theorem d_method_3_18 : decode method_3_code 18 = .ok (.bipush 16, 2) := by decide +kernel
theorem d_method_3_20 : decode method_3_code 20 = .ok (.iushr, 1) := by decide +kernel
theorem d_method_3_21 : decode method_3_code 21 = .ok (.sipush 255, 3) := by decide +kernel
theorem d_method_3_24 : decode method_3_code 24 = .ok (.iand, 1) := by decide +kernel
theorem d_method_3_25 : decode method_3_code 25 = .ok (.i2c, 1) := by decide +kernel
theorem d_method_3_26 : decode method_3_code 26 = .ok (.istore 4, 2) := by decide +kernel
theorem d_method_3_28 : decode method_3_code 28 = .ok (.iload_n 1, 1) := by decide +kernel
theorem d_method_3_29 : decode method_3_code 29 = .ok (.ifCond .ne 14, 3) := by decide +kernel
theorem d_method_3_32 : decode method_3_code 32 = .ok (.new 22, 3) := by decide +kernel
theorem d_method_3_35 : decode method_3_code 35 = .ok (.dup, 1) := by decide +kernel
theorem d_method_3_36 : decode method_3_code 36 = .ok (.iconst 0, 1) := by decide +kernel
theorem d_method_3_37 : decode method_3_code 37 = .ok (.newarray .char, 2) := by decide +kernel
theorem d_method_3_39 : decode method_3_code 39 = .ok (.invokespecial 24, 3) := by decide +kernel
theorem d_method_3_42 : decode method_3_code 42 = .ok (.areturn, 1) := by decide +kernel
theorem d_method_3_43 : decode method_3_code 43 = .ok (.iload_n 1, 1) := by decide +kernel
theorem d_method_3_44 : decode method_3_code 44 = .ok (.iconst 1, 1) := by decide +kernel
theorem d_method_3_45 : decode method_3_code 45 = .ok (.if_icmp .ne 18, 3) := by decide +kernel
theorem d_method_3_48 : decode method_3_code 48 = .ok (.new 22, 3) := by decide +kernel
theorem d_method_3_51 : decode method_3_code 51 = .ok (.dup, 1) := by decide +kernel
theorem d_method_3_52 : decode method_3_code 52 = .ok (.iconst 1, 1) := by decide +kernel
theorem d_method_3_53 : decode method_3_code 53 = .ok (.newarray .char, 2) := by decide +kernel
theorem d_method_3_55 : decode method_3_code 55 = .ok (.dup, 1) := by decide +kernel
theorem d_method_3_56 : decode method_3_code 56 = .ok (.iconst 0, 1) := by decide +kernel
theorem d_method_3_57 : decode method_3_code 57 = .ok (.iload_n 2, 1) := by decide +kernel
theorem d_method_3_58 : decode method_3_code 58 = .ok (.castore, 1) := by decide +kernel
theorem d_method_3_59 : decode method_3_code 59 = .ok (.invokespecial 24, 3) := by decide +kernel
theorem d_method_3_62 : decode method_3_code 62 = .ok (.areturn, 1) := by decide +kernel
theorem d_method_3_63 : decode method_3_code 63 = .ok (.iload_n 1, 1) := by decide +kernel
theorem d_method_3_64 : decode method_3_code 64 = .ok (.iconst 2, 1) := by decide +kernel
theorem d_method_3_65 : decode method_3_code 65 = .ok (.if_icmp .ne 22, 3) := by decide +kernel
theorem d_method_3_68 : decode method_3_code 68 = .ok (.new 22, 3) := by decide +kernel
theorem d_method_3_71 : decode method_3_code 71 = .ok (.dup, 1) := by decide +kernel
theorem d_method_3_72 : decode method_3_code 72 = .ok (.iconst 2, 1) := by decide +kernel
theorem d_method_3_73 : decode method_3_code 73 = .ok (.newarray .char, 2) := by decide +kernel
theorem d_method_3_75 : decode method_3_code 75 = .ok (.dup, 1) := by decide +kernel
theorem d_method_3_76 : decode method_3_code 76 = .ok (.iconst 0, 1) := by decide +kernel
theorem d_method_3_77 : decode method_3_code 77 = .ok (.iload_n 2, 1) := by decide +kernel
theorem d_method_3_78 : decode method_3_code 78 = .ok (.castore, 1) := by decide +kernel
theorem d_method_3_79 : decode method_3_code 79 = .ok (.dup, 1) := by decide +kernel
theorem d_method_3_80 : decode method_3_code 80 = .ok (.iconst 1, 1) := by decide +kernel
theorem d_method_3_81 : decode method_3_code 81 = .ok (.iload_n 3, 1) := by decide +kernel
theorem d_method_3_82 : decode method_3_code 82 = .ok (.castore, 1) := by decide +kernel
theorem d_method_3_83 : decode method_3_code 83 = .ok (.invokespecial 24, 3) := by decide +kernel
theorem d_method_3_86 : decode method_3_code 86 = .ok (.areturn, 1) := by decide +kernel
theorem d_method_3_87 : decode method_3_code 87 = .ok (.new 22, 3) := by decide +kernel
theorem d_method_3_90 : decode method_3_code 90 = .ok (.dup, 1) := by decide +kernel
theorem d_method_3_91 : decode method_3_code 91 = .ok (.iconst 3, 1) := by decide +kernel
theorem d_method_3_92 : decode method_3_code 92 = .ok (.newarray .char, 2) := by decide +kernel
theorem d_method_3_94 : decode method_3_code 94 = .ok (.dup, 1) := by decide +kernel
theorem d_method_3_95 : decode method_3_code 95 = .ok (.iconst 0, 1) := by decide +kernel
theorem d_method_3_96 : decode method_3_code 96 = .ok (.iload_n 2, 1) := by decide +kernel
theorem d_method_3_97 : decode method_3_code 97 = .ok (.castore, 1) := by decide +kernel
theorem d_method_3_98 : decode method_3_code 98 = .ok (.dup, 1) := by decide +kernel
theorem d_method_3_99 : decode method_3_code 99 = .ok (.iconst 1, 1) := by decide +kernel
theorem d_method_3_100 : decode method_3_code 100 = .ok (.iload_n 3, 1) := by decide +kernel
theorem d_method_3_101 : decode method_3_code 101 = .ok (.castore, 1) := by decide +kernel
theorem d_method_3_102 : decode method_3_code 102 = .ok (.dup, 1) := by decide +kernel
theorem d_method_3_103 : decode method_3_code 103 = .ok (.iconst 2, 1) := by decide +kernel
theorem d_method_3_104 : decode method_3_code 104 = .ok (.iload 4, 2) := by decide +kernel
theorem d_method_3_106 : decode method_3_code 106 = .ok (.castore, 1) := by decide +kernel
theorem d_method_3_107 : decode method_3_code 107 = .ok (.invokespecial 24, 3) := by decide +kernel
theorem d_method_3_110 : decode method_3_code 110 = .ok (.areturn, 1) := by decide +kernel
theorem d_jdk_30_method_1_0 : decode jdk_30_method_1_code 0 = .ok (.aload_n 0, 1) := by decide +kernel
theorem d_jdk_30_method_1_1 : decode jdk_30_method_1_code 1 = .ok (.invokespecial 1, 3) := by decide +kernel
theorem d_jdk_30_method_1_4 : decode jdk_30_method_1_code 4 = .ok (.return_, 1) := by decide +kernel
theorem d_prog_32_method_1_0 : decode prog_32_method_1_code 0 = .ok (.aload_n 0, 1) := by decide +kernel
theorem d_prog_32_method_1_1 : decode prog_32_method_1_code 1 = .ok (.invokespecial 1, 3) := by decide +kernel
theorem d_prog_32_method_1_4 : decode prog_32_method_1_code 4 = .ok (.aload_n 0, 1) := by decide +kernel
theorem d_prog_32_method_1_5 : decode prog_32_method_1_code 5 = .ok (.aload_n 1, 1) := by decide +kernel
theorem d_prog_32_method_1_6 : decode prog_32_method_1_code 6 = .ok (.putfield 7, 3) := by decide +kernel
theorem d_prog_32_method_1_9 : decode prog_32_method_1_code 9 = .ok (.aload_n 0, 1) := by decide +kernel
theorem d_prog_32_method_1_10 : decode prog_32_method_1_code 10 = .ok (.iload_n 2, 1) := by decide +kernel
theorem d_prog_32_method_1_11 : decode prog_32_method_1_code 11 = .ok (.putfield 13, 3) := by decide +kernel
theorem d_prog_32_method_1_14 : decode prog_32_method_1_code 14 = .ok (.return_, 1) := by decide +kernel
theorem d_prog_32_method_4_0 : decode prog_32_method_4_code 0 = .ok (.aload_n 1, 1) := by decide +kernel
theorem d_prog_32_method_4_1 : decode prog_32_method_4_code 1 = .ok (.instanceof 8, 3) := by decide +kernel
theorem d_prog_32_method_4_4 : decode prog_32_method_4_code 4 = .ok (.ifCond .eq 37, 3) := by decide +kernel
theorem d_prog_32_method_4_7 : decode prog_32_method_4_code 7 = .ok (.aload_n 1, 1) := by decide +kernel
theorem d_prog_32_method_4_8 : decode prog_32_method_4_code 8 = .ok (.checkcast 8, 3) := by decide +kernel
theorem d_prog_32_method_4_11 : decode prog_32_method_4_code 11 = .ok (.astore_n 2, 1) := by decide +kernel
theorem d_prog_32_method_4_12 : decode prog_32_method_4_code 12 = .ok (.aload_n 0, 1) := by decide +kernel
theorem d_prog_32_method_4_13 : decode prog_32_method_4_code 13 = .ok (.getfield 13, 3) := by decide +kernel
theorem d_prog_32_method_4_16 : decode prog_32_method_4_code 16 = .ok (.aload_n 2, 1) := by decide +kernel
theorem d_prog_32_method_4_17 : decode prog_32_method_4_code 17 = .ok (.getfield 13, 3) := by decide +kernel
theorem d_prog_32_method_4_20 : decode prog_32_method_4_code 20 = .ok (.if_icmp .ne 21, 3) := by decide +kernel
theorem d_prog_32_method_4_23 : decode prog_32_method_4_code 23 = .ok (.aload_n 0, 1) := by decide +kernel
theorem d_prog_32_method_4_24 : decode prog_32_method_4_code 24 = .ok (.getfield 7, 3) := by decide +kernel
theorem d_prog_32_method_4_27 : decode prog_32_method_4_code 27 = .ok (.aload_n 2, 1) := by decide +kernel
theorem d_prog_32_method_4_28 : decode prog_32_method_4_code 28 = .ok (.getfield 7, 3) := by decide +kernel
theorem d_prog_32_method_4_31 : decode prog_32_method_4_code 31 = .ok (.invokevirtual 36, 3) := by decide +kernel
theorem d_prog_32_method_4_34 : decode prog_32_method_4_code 34 = .ok (.ifCond .eq 7, 3) := by decide +kernel
theorem d_prog_32_method_4_37 : decode prog_32_method_4_code 37 = .ok (.iconst 1, 1) := by decide +kernel
theorem d_prog_32_method_4_38 : decode prog_32_method_4_code 38 = .ok (.goto 4, 3) := by decide +kernel
theorem d_prog_32_method_4_41 : decode prog_32_method_4_code 41 = .ok (.iconst 0, 1) := by decide +kernel
theorem d_prog_32_method_4_42 : decode prog_32_method_4_code 42 = .ok (.ireturn, 1) := by decide +kernel
theorem pd_0 : parseMethodDescriptor "([CIILjava/lang/Void;)V" = some ⟨[(.array .char), .int, .int, (.object "java/lang/Void")], none⟩ := by decide +kernel
theorem pd_1 : parseMethodDescriptor "([C)V" = some ⟨[(.array .char)], none⟩ := by decide +kernel
theorem pd_2 : parseMethodDescriptor "()V" = some ⟨[], none⟩ := by decide +kernel
theorem pd_3 : parseMethodDescriptor "(Ljava/lang/Object;)Z" = some ⟨[(.object "java/lang/Object")], some .boolean⟩ := by decide +kernel
theorem pd_4 : parseMethodDescriptor "(II)Ljava/lang/String;" = some ⟨[.int, .int], some (.object "java/lang/String")⟩ := by decide +kernel
theorem pd_5 : parseMethodDescriptor "(Ljava/lang/String;Z)V" = some ⟨[(.object "java/lang/String"), .boolean], none⟩ := by decide +kernel
set_option maxRecDepth 65536 in
set_option maxHeartbeats 40000000 in
theorem rm_str4e (l : Launch) (Z : State) (a0 : Array Value) (hw : ∀ d ∈ tables_1, d.before a0 Z = true) (hEL : EW Z a0 consts_1) (n0 : Nat) (x b : Addr) (h : Heap) (Ex : Exa Z h x "java/lang/String") (Fv : Fld Z h x "java/lang/String" "value" "[B" .null) (Fc : Fld Z h x "java/lang/String" "coder" "B" (.int (0 : Int32)))  :
    Met l false Z consts_1 n0 (⟨"java/lang/String", "<init>", "([CIILjava/lang/Void;)V"⟩ : MethodName) jdk_42_method_149_code 6 none ({ frames := 1, cells := 4, slots := 8, locals := 12 } : Room) [] #[(.ref x), (.ref b), (.int (0 : Int32)), (.int (0 : Int32)), .null] [x] h (fun v h' => v = none ∧ Keep h h' [x] ∧ Str Z h' x []) := by
  refine Met.of_body (a0 := a0) (L0 := #[.val (.ref x), .val (.ref b), .val (.int (0 : Int32)), .val (.int (0 : Int32)), .val .null, .unset]) (plainFor_of_name (by first | (simp [plainName, overriddenIn]; done) | decide +kernel)) (fun m => by first | rfl | (simp [entryFrame, mkF, argsToLocals, Value.category]; done)) hw hEL (by decide) ?_
  have K : Keep h h [x] := Keep.refl _ _
  refine aloadN (pc' := 1) d_jdk_42_method_149_0 rfl rfl rfl ?_
  refine initObj (i := 15) (i2 := 16) (i3 := 17) (Wd := 0) (pc' := 4) d_jdk_42_method_149_1 rfl rfl rfl rfl (by decide) (Nat.le_of_ble_eq_true rfl) (by decide) rfl ?_
  refine iloadN (pc' := 5) d_jdk_42_method_149_4 rfl rfl ?_
  refine ifF (pc' := 8) d_jdk_42_method_149_5 (rfl : (0 : Int32) = (0 : Int32)) rfl ?_
  refine aloadN (pc' := 9) d_jdk_42_method_149_8 rfl rfl rfl ?_
  refine ldcStr (i := 34) (n := 0) (vs := []) (z := (0 : Int32)) (pc' := 11) d_jdk_42_method_149_9 rfl (by decide +kernel) (by decide) rfl ⟨by simp, by simp⟩ (by decide) rfl (by simp) (by decide) (by decide) (by decide) rfl fun h1 sa1 sb1 sk1 SE1 SA1 SC1 SV1 SR1 SN1 => ?_
  replace K := K.ext SE1
  replace Ex := Ex.ext SE1
  replace Fv := Fv.ext SE1
  replace Fc := Fc.ext SE1
  refine at' (ce' := 2) (sl' := 4) (pc' := 11) (L' := #[.val (.ref x), .val (.ref b), .val (.int (0 : Int32)), .val (.int (0 : Int32)), .val .null, .unset]) (S' := [(.ref sa1), (.ref x)]) rfl rfl rfl rfl rfl ?_
  refine getfield (i := 32) (pc' := 14) d_jdk_42_method_149_11 rfl SV1 rfl ?_
  refine putfield (i := 32) (i2 := 33) (i3 := 5) (pc' := 17) (v' := (.ref sb1)) (ty := (.array .byte)) d_jdk_42_method_149_14 rfl (Or.inr ⟨rfl, rfl, rfl⟩) rfl Fv Ex (by decide) rfl rfl (by simp) rfl fun h1 W2 => ?_
  replace K := K.wr W2 (Or.inl (by simp))
  replace Ex := Ex.wr W2
  replace Fv := Fv.same W2
  replace Fc := Fc.other W2 (Or.inr (slot_ne (Or.inr (hw _ (List.mem_of_getElem? (i := 31) rfl))) (Or.inr (hw _ (List.mem_of_getElem? (i := 33) rfl))) (by decide) (t := .byte) (t' := (.array .byte)) (by decide) (by decide)))
  replace SA1 := SA1.wr W2
  replace SC1 := SC1.other W2 (Or.inl (Ne.symm (SN1 x (by simp)).1))
  replace SV1 := SV1.other W2 (Or.inl (Ne.symm (SN1 x (by simp)).1))
  replace SR1 := SR1.other W2 (Ne.symm (SN1 x (by simp)).2)
  refine aloadN (pc' := 18) d_jdk_42_method_149_17 rfl rfl rfl ?_
  refine ldcStr (i := 34) (n := 0) (vs := []) (z := (0 : Int32)) (pc' := 20) d_jdk_42_method_149_18 rfl (by decide +kernel) (by decide) rfl ⟨by simp, by simp⟩ (by decide) rfl (by simp) (by decide) (by decide) (by decide) rfl fun h2 sa2 sb2 sk2 SE2 SA2 SC2 SV2 SR2 SN2 => ?_
  replace K := K.ext SE2
  replace Ex := Ex.ext SE2
  replace Fv := Fv.ext SE2
  replace Fc := Fc.ext SE2
  replace SR1 := SR1.ext SE2
  refine at' (ce' := 4) (sl' := 8) (pc' := 20) (L' := #[.val (.ref x), .val (.ref b), .val (.int (0 : Int32)), .val (.int (0 : Int32)), .val .null, .unset]) (S' := [(.ref sa2), (.ref x)]) rfl rfl rfl rfl rfl ?_
  refine getfield (i := 30) (pc' := 23) d_jdk_42_method_149_20 rfl SC2 rfl ?_
  refine putfield (i := 30) (i2 := 31) (i3 := 5) (pc' := 26) (v' := (.int (0 : Int32))) (ty := .byte) d_jdk_42_method_149_23 rfl (Or.inr ⟨rfl, rfl, rfl⟩) rfl Fc Ex (by decide) (by decide) (by decide) (by simp) rfl fun h3 W4 => ?_
  replace K := K.wr W4 (Or.inl (by simp))
  replace Ex := Ex.wr W4
  replace Fv := Fv.other W4 (Or.inr (slot_ne (Or.inr (hw _ (List.mem_of_getElem? (i := 33) rfl))) (Or.inr (hw _ (List.mem_of_getElem? (i := 31) rfl))) (by decide) (t := (.array .byte)) (t' := .byte) (by decide) (by decide)))
  replace Fc := Fc.same W4
  replace SR1 := SR1.other W4 (Ne.symm (SN1 x (by simp)).2)
  replace SA2 := SA2.wr W4
  replace SC2 := SC2.other W4 (Or.inl (Ne.symm (SN2 x (by simp)).1))
  replace SV2 := SV2.other W4 (Or.inl (Ne.symm (SN2 x (by simp)).1))
  replace SR2 := SR2.other W4 (Ne.symm (SN2 x (by simp)).2)
  exact retV d_jdk_42_method_149_26 rfl (by decide) (by decide) ⟨rfl, K, Ex, Fc, ⟨sb1, _, Fv, SR1⟩, by simp, by decide⟩
set_option maxRecDepth 65536 in
set_option maxHeartbeats 40000000 in
theorem rm_stre (l : Launch) (Z : State) (a0 : Array Value) (hw : ∀ d ∈ tables_1, d.before a0 Z = true) (hEL : EW Z a0 consts_1) (n0 : Nat) (x b : Addr) (kc : ClassId) (dv : Value) (h : Heap) (Ex : Exa Z h x "java/lang/String") (Fv : Fld Z h x "java/lang/String" "value" "[B" .null) (Fc : Fld Z h x "java/lang/String" "coder" "B" (.int (0 : Int32))) (Ab : Arv Z h b kc .char (0 : Int32) [] dv)  :
    Met l false Z consts_1 n0 (⟨"java/lang/String", "<init>", "([C)V"⟩ : MethodName) jdk_42_method_3_code 2 none ({ frames := 2, cells := 4, slots := 8, locals := 29 } : Room) [] #[(.ref x), (.ref b)] [x] h (fun v h' => v = none ∧ Keep h h' [x] ∧ Str Z h' x []) := by
  refine Met.of_body (a0 := a0) (L0 := #[.val (.ref x), .val (.ref b)]) (plainFor_of_name (by first | (simp [plainName, overriddenIn]; done) | decide +kernel)) (fun m => by first | rfl | (simp [entryFrame, mkF, argsToLocals, Value.category]; done)) hw hEL (by decide) ?_
  refine aloadN (pc' := 1) d_jdk_42_method_3_0 rfl rfl rfl ?_
  refine aloadN (pc' := 2) d_jdk_42_method_3_1 rfl rfl rfl ?_
  refine iconst (pc' := 3) (v := (0 : Int32)) d_jdk_42_method_3_2 rfl rfl ?_
  refine aloadN (pc' := 4) d_jdk_42_method_3_3 rfl rfl rfl ?_
  refine arraylength (pc' := 5) d_jdk_42_method_3_4 Ab rfl ?_
  refine aconst_null (pc' := 6) d_jdk_42_method_3_5 rfl ?_
  refine call (i := 14) (i2 := 6) (Wd := 0) (pc' := 9) (kInit (i := 11) (i2 := 12) (i4 := 14) (a := x) (argsL := [(.ref b), (.int (0 : Int32)), (.int (0 : Int32)), .null]) (S' := []) (Wd := 0) d_jdk_42_method_3_6 rfl rfl rfl rfl (by decide) rfl pd_0 rfl rfl (Nat.le_of_ble_eq_true rfl)) (rm_str4e l Z a0 hw hEL n0 x b _ Ex Fv Fc) rfl rfl (by simp) (by decide) (by decide) (by decide) (by decide) rfl fun v_ h5 P6 sz7 => ?_
  obtain ⟨rfl, K, Sx⟩ := P6
  refine at' (ce' := 4) (sl' := 8) (pc' := 9) (L' := #[.val (.ref x), .val (.ref b)]) (S' := []) rfl rfl rfl rfl rfl ?_
  exact retV d_jdk_42_method_3_9 rfl (by decide) (by decide) ⟨rfl, K, Sx⟩
theorem strNewW {l : Launch} {Z : State} {a0 : Array Value} {n0 : Nat} {y : MethodName} {B : ByteArray} {ml : Nat} {ret : Option FieldType} {R : Room} {h0 : Heap} {Post : Option Value → Heap → Prop} {fs : List Addr} {h : Heap} {ce sl pc pc' : Nat} {L : Array Slot} {S S' : List Value} {i Wd n : Nat} {x b : Addr} {kC : ClassId} {cs : List Int32} {d : Value} {N : Int32} (hB : Sets Z) (hws : ∀ d ∈ StrChars.Road.words, d ∈ tables_1) (wi : tables_1[i]? = some (.instantiable ST 4)) (kd : Kd l Z a0 y B ml R h ce sl pc L S (⟨"java/lang/String", "<init>", "([C)V"⟩ : MethodName) 3 Wd #[.ref x, .ref b] S')
    (E : Exa Z h x ST) (Vf : Fld Z h x ST "value" "[B" .null) (Cf : Fld Z h x ST "coder" "B" (.int (0 : Int32))) (A : Arv Z h b kC .char N (cs.map Value.int) d) (hn : cs.length = n) (hN : N = Int32.ofNat n) (l2 : n ≤ 4000) (hp : ∀ c ∈ cs, ¬ c < 0 ∧ ¬ (255 : Int32) < c) (hx : x ∈ fs)
    (hfr : 4 ≤ R.frames) (hlo : Wd + 65 ≤ R.locals) (hc : ce + 4 ≤ R.cells) (hs : sl + (n + 8) ≤ R.slots) (hpc : pc + 3 = pc') (K : ∀ h', Keep h h' [x] → Str Z h' x cs → Wq l false Z consts_1 a0 n0 y B ml ret R h0 Post fs h' (ce + 4) (sl + (n + 8)) pc' L S') : Wq l false Z consts_1 a0 n0 y B ml ret R h0 Post fs h ce sl pc L S := by
  rcases Nat.eq_zero_or_pos n with q | q
  · subst q
    obtain rfl := List.eq_nil_of_length_eq_zero hn
    subst hN
    refine ews fun hw hEL => call (i := 10) (i2 := 6) kd (rm_stre l Z a0 hw hEL n0 x b kC d h E Vf Cf A) rfl rfl (fun z r => by cases List.mem_singleton.mp r; exact hx) (by show 2 + 1 ≤ _; omega) (by show Wd + (2 + 11) + 29 ≤ _; omega) hc hs hpc fun v h' hP _ => ?_
    obtain ⟨rfl, k1, s1⟩ := hP
    exact K h' k1 s1
  · exact strNew hB hws wi kd E Vf Cf A hn hN q l2 hp hx hfr hlo (by omega) (by omega) hpc fun h' k1 s1 => more (by omega) (by omega) (K h' k1 s1)
def ch0 (v : Int32) : Int32 := v &&& 255
def ch1 (v : Int32) : Int32 := ((v.toUInt32 >>> ((8 : Int32) &&& 31).toUInt32).toInt32) &&& 255
def ch2 (v : Int32) : Int32 := ((v.toUInt32 >>> ((16 : Int32) &&& 31).toUInt32).toInt32) &&& 255
theorem own_255 (x : Int32) : ¬ (x &&& 255) < 0 ∧ ¬ (255 : Int32) < (x &&& 255) := by
  have h := c_and x 255 (by decide)
  rw [Int32.lt_iff_toInt_lt, Int32.lt_iff_toInt_lt]
  have e1 : (255 : Int32).toInt = 255 := rfl
  have e0 : (0 : Int32).toInt = 0 := rfl
  omega
theorem own_i2c (x : Int32) : nar .char (x &&& 255) = x &&& 255 := i2c_mask x
def nm (v n : Int32) : List Int32 := if n = 0 then [] else if n = 1 then [ch0 v] else if n = 2 then [ch0 v, ch1 v] else [ch0 v, ch1 v, ch2 v]
set_option maxRecDepth 65536 in
set_option maxHeartbeats 40000000 in
theorem rm_name (l : Launch) (Z : State) (a0 : Array Value) (hw : ∀ d ∈ tables_1, d.before a0 Z = true) (hEL : EW Z a0 consts_1) (n0 : Nat) (i j : Int32) (h : Heap)  (hB : Sets Z) :
    Met l false Z consts_1 n0 (⟨"com/example/berth/berth/engine/GroupingEqualsPinLaw", "name", "(II)Ljava/lang/String;"⟩ : MethodName) method_3_code 5 (some (.object "java/lang/String")) ({ frames := 4, cells := 6, slots := 18, locals := 66 } : Room) [] #[(.int i), (.int j)] [] h (fun v h' => ∃ r, v = some (.ref r) ∧ Ext h h' ∧ Str Z h' r (nm i j)) := by
  refine Met.of_body (a0 := a0) (L0 := #[.val (.int i), .val (.int j), .unset, .unset, .unset]) (plainFor_of_name (by first | (simp [plainName, overriddenIn]; done) | decide +kernel)) (fun m => by first | rfl | (simp [entryFrame, mkF, argsToLocals, Value.category]; done)) hw hEL (by decide) ?_
  have K : Keep h h [] := Keep.refl _ _
  refine iloadN (pc' := 1) d_method_3_0 rfl rfl ?_
  refine sipush (pc' := 4) (v := (255 : Int32)) d_method_3_1 rfl rfl ?_
  refine iand (pc' := 5) d_method_3_4 rfl ?_
  refine i2c (pc' := 6) d_method_3_5 rfl ?_
  refine istoreN (pc' := 7) (L' := #[.val (.int i), .val (.int j), .val (.int ((i &&& (255 : Int32)).toUInt32.toUInt16.toUInt32.toInt32)), .unset, .unset]) d_method_3_6 rfl rfl ?_
  refine iloadN (pc' := 8) d_method_3_7 rfl rfl ?_
  refine bipush (pc' := 10) (v := (8 : Int32)) d_method_3_8 rfl rfl ?_
  refine iushr (pc' := 11) d_method_3_10 rfl ?_
  refine sipush (pc' := 14) (v := (255 : Int32)) d_method_3_11 rfl rfl ?_
  refine iand (pc' := 15) d_method_3_14 rfl ?_
  refine i2c (pc' := 16) d_method_3_15 rfl ?_
  refine istoreN (pc' := 17) (L' := #[.val (.int i), .val (.int j), .val (.int ((i &&& (255 : Int32)).toUInt32.toUInt16.toUInt32.toInt32)), .val (.int ((((i.toUInt32 >>> ((8 : Int32) &&& 31).toUInt32).toInt32) &&& (255 : Int32)).toUInt32.toUInt16.toUInt32.toInt32)), .unset]) d_method_3_16 rfl rfl ?_
  refine iloadN (pc' := 18) d_method_3_17 rfl rfl ?_
  refine bipush (pc' := 20) (v := (16 : Int32)) d_method_3_18 rfl rfl ?_
  refine iushr (pc' := 21) d_method_3_20 rfl ?_
  refine sipush (pc' := 24) (v := (255 : Int32)) d_method_3_21 rfl rfl ?_
  refine iand (pc' := 25) d_method_3_24 rfl ?_
  refine i2c (pc' := 26) d_method_3_25 rfl ?_
  refine istore (pc' := 28) (L' := #[.val (.int i), .val (.int j), .val (.int ((i &&& (255 : Int32)).toUInt32.toUInt16.toUInt32.toInt32)), .val (.int ((((i.toUInt32 >>> ((8 : Int32) &&& 31).toUInt32).toInt32) &&& (255 : Int32)).toUInt32.toUInt16.toUInt32.toInt32)), .val (.int ((((i.toUInt32 >>> ((16 : Int32) &&& 31).toUInt32).toInt32) &&& (255 : Int32)).toUInt32.toUInt16.toUInt32.toInt32))]) d_method_3_26 rfl rfl ?_
  refine at' (ce' := 0) (sl' := 0) (pc' := 28) (L' := #[.val (.int i), .val (.int j), .val (.int (ch0 i)), .val (.int (ch1 i)), .val (.int (ch2 i))]) (S' := []) rfl rfl rfl (by rw [i2c_mask, i2c_mask, i2c_mask]; rfl) rfl ?_
  refine iloadN (pc' := 29) d_method_3_28 rfl rfl ?_
  refine ifc (pc' := 43) (pcF := 32) d_method_3_29 (by decide) rfl rfl (fun (q0 : ¬ (j = (0 : Int32))) => ?_) (fun (q0 : j = (0 : Int32)) => ?_)
  · skip
    refine iloadN (pc' := 44) d_method_3_43 rfl rfl ?_
    refine iconst (pc' := 45) (v := (1 : Int32)) d_method_3_44 rfl rfl ?_
    refine icmp (pc' := 63) (pcF := 48) d_method_3_45 (by decide) rfl rfl (fun (q1 : ¬ (j = (1 : Int32))) => ?_) (fun (q1 : j = (1 : Int32)) => ?_)
    · skip
      refine iloadN (pc' := 64) d_method_3_63 rfl rfl ?_
      refine iconst (pc' := 65) (v := (2 : Int32)) d_method_3_64 rfl rfl ?_
      refine icmp (pc' := 87) (pcF := 68) d_method_3_65 (by decide) rfl rfl (fun (q2 : ¬ (j = (2 : Int32))) => ?_) (fun (q2 : j = (2 : Int32)) => ?_)
      · skip
        refine new (i := 4) (i2 := 5) (i3 := 6) (pc' := 90) d_method_3_87 rfl rfl rfl (by decide) (by decide) rfl fun h53 a54 g55 E56 A57 D58 => ?_
        have sz_a54 : h.size ≤ a54 := by rw [g55]; exact K.1
        replace K := K.ext E56
        have F_coder_a54 : Fld Z h53 a54 "java/lang/String" "coder" "B" (.int (0 : Int32)) := D58 (Or.inr (hw _ (List.mem_of_getElem? (i := 31) rfl))) (ty := .byte) (by decide)
        have F_value_a54 : Fld Z h53 a54 "java/lang/String" "value" "[B" .null := D58 (Or.inr (hw _ (List.mem_of_getElem? (i := 33) rfl))) (ty := (.array .byte)) (by decide)
        refine dup (pc' := 91) d_method_3_90 rfl rfl ?_
        refine iconst (pc' := 92) (v := (3 : Int32)) d_method_3_91 rfl rfl ?_
        refine newarray (i := 7) (cap := 3) (ty := .char) (pc' := 94) d_method_3_92 rfl rfl (by decide) (by decide) (by decide) (by decide) (by decide) rfl fun h59 a60 kc64 g61 E62 V63 => ?_
        have sz_a60 : h.size ≤ a60 := by rw [g61]; exact K.1
        have ne_a54_a60 : a54 ≠ a60 := Nat.ne_of_lt (by rw [g61]; exact A57.lt)
        replace K := K.ext E62
        replace A57 := A57.ext E62
        replace F_coder_a54 := F_coder_a54.ext E62
        replace F_value_a54 := F_value_a54.ext E62
        replace V63 : Arv Z h59 a60 kc64 .char (3 : Int32) [(.int (0 : Int32)), (.int (0 : Int32)), (.int (0 : Int32))] (.int (0 : Int32)) := V63.pad (pad_rep [] (.int (0 : Int32)) 3)
        refine dup (pc' := 95) d_method_3_94 rfl rfl ?_
        refine iconst (pc' := 96) (v := (0 : Int32)) d_method_3_95 rfl rfl ?_
        refine iloadN (pc' := 97) d_method_3_96 rfl rfl ?_
        refine castore (pc' := 98) d_method_3_97 V63 ⟨by decide, by decide⟩ (by simp) (Nat.le_of_ble_eq_true rfl) rfl fun h65 W66 V67 => ?_
        replace K := K.wr W66 (Or.inr sz_a60)
        replace A57 := A57.wr W66
        replace F_coder_a54 := F_coder_a54.other W66 (Or.inl ne_a54_a60)
        replace F_value_a54 := F_value_a54.other W66 (Or.inl ne_a54_a60)
        replace V63 : Arv Z h65 a60 kc64 .char (3 : Int32) [(.int (nar .char (ch0 i))), (.int (0 : Int32)), (.int (0 : Int32))] (.int (0 : Int32)) := V67
        refine dup (pc' := 99) d_method_3_98 rfl rfl ?_
        refine iconst (pc' := 100) (v := (1 : Int32)) d_method_3_99 rfl rfl ?_
        refine iloadN (pc' := 101) d_method_3_100 rfl rfl ?_
        refine castore (pc' := 102) d_method_3_101 V63 ⟨by decide, by decide⟩ (by simp) (Nat.le_of_ble_eq_true rfl) rfl fun h68 W69 V70 => ?_
        replace K := K.wr W69 (Or.inr sz_a60)
        replace A57 := A57.wr W69
        replace F_coder_a54 := F_coder_a54.other W69 (Or.inl ne_a54_a60)
        replace F_value_a54 := F_value_a54.other W69 (Or.inl ne_a54_a60)
        replace V63 : Arv Z h68 a60 kc64 .char (3 : Int32) [(.int (nar .char (ch0 i))), (.int (nar .char (ch1 i))), (.int (0 : Int32))] (.int (0 : Int32)) := V70
        refine dup (pc' := 103) d_method_3_102 rfl rfl ?_
        refine iconst (pc' := 104) (v := (2 : Int32)) d_method_3_103 rfl rfl ?_
        refine iload (pc' := 106) d_method_3_104 rfl rfl ?_
        refine castore (pc' := 107) d_method_3_106 V63 ⟨by decide, by decide⟩ (by simp) (Nat.le_of_ble_eq_true rfl) rfl fun h71 W72 V73 => ?_
        replace K := K.wr W72 (Or.inr sz_a60)
        replace A57 := A57.wr W72
        replace F_coder_a54 := F_coder_a54.other W72 (Or.inl ne_a54_a60)
        replace F_value_a54 := F_value_a54.other W72 (Or.inl ne_a54_a60)
        replace V63 : Arv Z h71 a60 kc64 .char (3 : Int32) [(.int (nar .char (ch0 i))), (.int (nar .char (ch1 i))), (.int (nar .char (ch2 i)))] (.int (0 : Int32)) := V73
        have Vb : Arv Z h71 a60 kc64 .char (3 : Int32) ([ch0 i, ch1 i, ch2 i].map Value.int) (.int (0 : Int32)) := by
          have q := V63
          simp only [ch0, ch1, ch2, own_i2c] at q; exact q
        refine strNewW (i := 5) (n := 3) (cs := [ch0 i, ch1 i, ch2 i]) (pc' := 110) hB (by decide +kernel) rfl (kInit (i := 8) (i2 := 9) (i4 := 10) (a := a54) (argsL := [(.ref a60)]) (S' := [(.ref a54)]) (Wd := 1) d_method_3_107 rfl rfl rfl rfl (by decide) rfl pd_1 rfl rfl (Nat.le_of_ble_eq_true rfl)) A57 F_value_a54 F_coder_a54 Vb rfl rfl (by decide) (by intro c hc; simp only [List.mem_cons, List.not_mem_nil, or_false] at hc; rcases hc with rfl | rfl | rfl <;> exact own_255 _) (by simp) (by decide) (by decide) (by decide) (by decide) rfl fun hs Ks Ss => ?_
        replace K := K.trans Ks (allS (Or.inr sz_a54) all0)
        replace A57 := A57.keep Ks
        replace V63 := V63.keep Ks (ninS (Ne.symm ne_a54_a60) nin0)
        refine at' (ce' := 6) (sl' := 18) (pc' := 110) (L' := #[.val (.int i), .val (.int j), .val (.int (ch0 i)), .val (.int (ch1 i)), .val (.int (ch2 i))]) (S' := [(.ref a54)]) rfl rfl rfl rfl rfl ?_
        exact retA d_method_3_110 rfl rfl rfl (by decide) (by decide) ⟨a54, rfl, keepExt K, by simpa [nm, q0, q1, q2] using Ss⟩
      · skip
        refine new (i := 4) (i2 := 5) (i3 := 6) (pc' := 71) d_method_3_68 rfl rfl rfl (by decide) (by decide) rfl fun h35 a36 g37 E38 A39 D40 => ?_
        have sz_a36 : h.size ≤ a36 := by rw [g37]; exact K.1
        replace K := K.ext E38
        have F_coder_a36 : Fld Z h35 a36 "java/lang/String" "coder" "B" (.int (0 : Int32)) := D40 (Or.inr (hw _ (List.mem_of_getElem? (i := 31) rfl))) (ty := .byte) (by decide)
        have F_value_a36 : Fld Z h35 a36 "java/lang/String" "value" "[B" .null := D40 (Or.inr (hw _ (List.mem_of_getElem? (i := 33) rfl))) (ty := (.array .byte)) (by decide)
        refine dup (pc' := 72) d_method_3_71 rfl rfl ?_
        refine iconst (pc' := 73) (v := (2 : Int32)) d_method_3_72 rfl rfl ?_
        refine newarray (i := 7) (cap := 2) (ty := .char) (pc' := 75) d_method_3_73 rfl rfl (by decide) (by decide) (by decide) (by decide) (by decide) rfl fun h41 a42 kc46 g43 E44 V45 => ?_
        have sz_a42 : h.size ≤ a42 := by rw [g43]; exact K.1
        have ne_a36_a42 : a36 ≠ a42 := Nat.ne_of_lt (by rw [g43]; exact A39.lt)
        replace K := K.ext E44
        replace A39 := A39.ext E44
        replace F_coder_a36 := F_coder_a36.ext E44
        replace F_value_a36 := F_value_a36.ext E44
        replace V45 : Arv Z h41 a42 kc46 .char (2 : Int32) [(.int (0 : Int32)), (.int (0 : Int32))] (.int (0 : Int32)) := V45.pad (pad_rep [] (.int (0 : Int32)) 2)
        refine dup (pc' := 76) d_method_3_75 rfl rfl ?_
        refine iconst (pc' := 77) (v := (0 : Int32)) d_method_3_76 rfl rfl ?_
        refine iloadN (pc' := 78) d_method_3_77 rfl rfl ?_
        refine castore (pc' := 79) d_method_3_78 V45 ⟨by decide, by decide⟩ (by simp) (Nat.le_of_ble_eq_true rfl) rfl fun h47 W48 V49 => ?_
        replace K := K.wr W48 (Or.inr sz_a42)
        replace A39 := A39.wr W48
        replace F_coder_a36 := F_coder_a36.other W48 (Or.inl ne_a36_a42)
        replace F_value_a36 := F_value_a36.other W48 (Or.inl ne_a36_a42)
        replace V45 : Arv Z h47 a42 kc46 .char (2 : Int32) [(.int (nar .char (ch0 i))), (.int (0 : Int32))] (.int (0 : Int32)) := V49
        refine dup (pc' := 80) d_method_3_79 rfl rfl ?_
        refine iconst (pc' := 81) (v := (1 : Int32)) d_method_3_80 rfl rfl ?_
        refine iloadN (pc' := 82) d_method_3_81 rfl rfl ?_
        refine castore (pc' := 83) d_method_3_82 V45 ⟨by decide, by decide⟩ (by simp) (Nat.le_of_ble_eq_true rfl) rfl fun h50 W51 V52 => ?_
        replace K := K.wr W51 (Or.inr sz_a42)
        replace A39 := A39.wr W51
        replace F_coder_a36 := F_coder_a36.other W51 (Or.inl ne_a36_a42)
        replace F_value_a36 := F_value_a36.other W51 (Or.inl ne_a36_a42)
        replace V45 : Arv Z h50 a42 kc46 .char (2 : Int32) [(.int (nar .char (ch0 i))), (.int (nar .char (ch1 i)))] (.int (0 : Int32)) := V52
        have Vb : Arv Z h50 a42 kc46 .char (2 : Int32) ([ch0 i, ch1 i].map Value.int) (.int (0 : Int32)) := by
          have q := V45
          simp only [ch0, ch1, ch2, own_i2c] at q; exact q
        refine strNewW (i := 5) (n := 2) (cs := [ch0 i, ch1 i]) (pc' := 86) hB (by decide +kernel) rfl (kInit (i := 8) (i2 := 9) (i4 := 10) (a := a36) (argsL := [(.ref a42)]) (S' := [(.ref a36)]) (Wd := 1) d_method_3_83 rfl rfl rfl rfl (by decide) rfl pd_1 rfl rfl (Nat.le_of_ble_eq_true rfl)) A39 F_value_a36 F_coder_a36 Vb rfl rfl (by decide) (by intro c hc; simp only [List.mem_cons, List.not_mem_nil, or_false] at hc; rcases hc with rfl | rfl <;> exact own_255 _) (by simp) (by decide) (by decide) (by decide) (by decide) rfl fun hs Ks Ss => ?_
        replace K := K.trans Ks (allS (Or.inr sz_a36) all0)
        replace A39 := A39.keep Ks
        replace V45 := V45.keep Ks (ninS (Ne.symm ne_a36_a42) nin0)
        refine at' (ce' := 6) (sl' := 16) (pc' := 86) (L' := #[.val (.int i), .val (.int j), .val (.int (ch0 i)), .val (.int (ch1 i)), .val (.int (ch2 i))]) (S' := [(.ref a36)]) rfl rfl rfl rfl rfl ?_
        exact retA d_method_3_86 rfl rfl rfl (by decide) (by decide) ⟨a36, rfl, keepExt K, by simpa [nm, q2] using Ss⟩
    · skip
      refine new (i := 4) (i2 := 5) (i3 := 6) (pc' := 51) d_method_3_48 rfl rfl rfl (by decide) (by decide) rfl fun h20 a21 g22 E23 A24 D25 => ?_
      have sz_a21 : h.size ≤ a21 := by rw [g22]; exact K.1
      replace K := K.ext E23
      have F_coder_a21 : Fld Z h20 a21 "java/lang/String" "coder" "B" (.int (0 : Int32)) := D25 (Or.inr (hw _ (List.mem_of_getElem? (i := 31) rfl))) (ty := .byte) (by decide)
      have F_value_a21 : Fld Z h20 a21 "java/lang/String" "value" "[B" .null := D25 (Or.inr (hw _ (List.mem_of_getElem? (i := 33) rfl))) (ty := (.array .byte)) (by decide)
      refine dup (pc' := 52) d_method_3_51 rfl rfl ?_
      refine iconst (pc' := 53) (v := (1 : Int32)) d_method_3_52 rfl rfl ?_
      refine newarray (i := 7) (cap := 1) (ty := .char) (pc' := 55) d_method_3_53 rfl rfl (by decide) (by decide) (by decide) (by decide) (by decide) rfl fun h26 a27 kc31 g28 E29 V30 => ?_
      have sz_a27 : h.size ≤ a27 := by rw [g28]; exact K.1
      have ne_a21_a27 : a21 ≠ a27 := Nat.ne_of_lt (by rw [g28]; exact A24.lt)
      replace K := K.ext E29
      replace A24 := A24.ext E29
      replace F_coder_a21 := F_coder_a21.ext E29
      replace F_value_a21 := F_value_a21.ext E29
      replace V30 : Arv Z h26 a27 kc31 .char (1 : Int32) [(.int (0 : Int32))] (.int (0 : Int32)) := V30.pad (pad_rep [] (.int (0 : Int32)) 1)
      refine dup (pc' := 56) d_method_3_55 rfl rfl ?_
      refine iconst (pc' := 57) (v := (0 : Int32)) d_method_3_56 rfl rfl ?_
      refine iloadN (pc' := 58) d_method_3_57 rfl rfl ?_
      refine castore (pc' := 59) d_method_3_58 V30 ⟨by decide, by decide⟩ (by simp) (Nat.le_of_ble_eq_true rfl) rfl fun h32 W33 V34 => ?_
      replace K := K.wr W33 (Or.inr sz_a27)
      replace A24 := A24.wr W33
      replace F_coder_a21 := F_coder_a21.other W33 (Or.inl ne_a21_a27)
      replace F_value_a21 := F_value_a21.other W33 (Or.inl ne_a21_a27)
      replace V30 : Arv Z h32 a27 kc31 .char (1 : Int32) [(.int (nar .char (ch0 i)))] (.int (0 : Int32)) := V34
      have Vb : Arv Z h32 a27 kc31 .char (1 : Int32) ([ch0 i].map Value.int) (.int (0 : Int32)) := by
        have q := V30
        simp only [ch0, ch1, ch2, own_i2c] at q; exact q
      refine strNewW (i := 5) (n := 1) (cs := [ch0 i]) (pc' := 62) hB (by decide +kernel) rfl (kInit (i := 8) (i2 := 9) (i4 := 10) (a := a21) (argsL := [(.ref a27)]) (S' := [(.ref a21)]) (Wd := 1) d_method_3_59 rfl rfl rfl rfl (by decide) rfl pd_1 rfl rfl (Nat.le_of_ble_eq_true rfl)) A24 F_value_a21 F_coder_a21 Vb rfl rfl (by decide) (by intro c hc; simp only [List.mem_cons, List.not_mem_nil, or_false] at hc; rcases hc with rfl <;> exact own_255 _) (by simp) (by decide) (by decide) (by decide) (by decide) rfl fun hs Ks Ss => ?_
      replace K := K.trans Ks (allS (Or.inr sz_a21) all0)
      replace A24 := A24.keep Ks
      replace V30 := V30.keep Ks (ninS (Ne.symm ne_a21_a27) nin0)
      refine at' (ce' := 6) (sl' := 14) (pc' := 62) (L' := #[.val (.int i), .val (.int j), .val (.int (ch0 i)), .val (.int (ch1 i)), .val (.int (ch2 i))]) (S' := [(.ref a21)]) rfl rfl rfl rfl rfl ?_
      exact retA d_method_3_62 rfl rfl rfl (by decide) (by decide) ⟨a21, rfl, keepExt K, by simpa [nm, q1] using Ss⟩
  · skip
    refine new (i := 4) (i2 := 5) (i3 := 6) (pc' := 35) d_method_3_32 rfl rfl rfl (by decide) (by decide) rfl fun h8 a9 g10 E11 A12 D13 => ?_
    have sz_a9 : h.size ≤ a9 := by rw [g10]; exact K.1
    replace K := K.ext E11
    have F_coder_a9 : Fld Z h8 a9 "java/lang/String" "coder" "B" (.int (0 : Int32)) := D13 (Or.inr (hw _ (List.mem_of_getElem? (i := 31) rfl))) (ty := .byte) (by decide)
    have F_value_a9 : Fld Z h8 a9 "java/lang/String" "value" "[B" .null := D13 (Or.inr (hw _ (List.mem_of_getElem? (i := 33) rfl))) (ty := (.array .byte)) (by decide)
    refine dup (pc' := 36) d_method_3_35 rfl rfl ?_
    refine iconst (pc' := 37) (v := (0 : Int32)) d_method_3_36 rfl rfl ?_
    refine newarray (i := 7) (cap := 0) (ty := .char) (pc' := 39) d_method_3_37 rfl rfl (by decide) (by decide) (by decide) (by decide) (by decide) rfl fun h14 a15 kc19 g16 E17 V18 => ?_
    have sz_a15 : h.size ≤ a15 := by rw [g16]; exact K.1
    have ne_a9_a15 : a9 ≠ a15 := Nat.ne_of_lt (by rw [g16]; exact A12.lt)
    replace K := K.ext E17
    replace A12 := A12.ext E17
    replace F_coder_a9 := F_coder_a9.ext E17
    replace F_value_a9 := F_value_a9.ext E17
    replace V18 : Arv Z h14 a15 kc19 .char (0 : Int32) [] (.int (0 : Int32)) := V18.pad (pad_rep [] (.int (0 : Int32)) 0)
    have Vb : Arv Z h14 a15 kc19 .char (0 : Int32) ([].map Value.int) (.int (0 : Int32)) := by
      have q := V18
      exact q
    refine strNewW (i := 5) (n := 0) (cs := []) (pc' := 42) hB (by decide +kernel) rfl (kInit (i := 8) (i2 := 9) (i4 := 10) (a := a9) (argsL := [(.ref a15)]) (S' := [(.ref a9)]) (Wd := 1) d_method_3_39 rfl rfl rfl rfl (by decide) rfl pd_1 rfl rfl (Nat.le_of_ble_eq_true rfl)) A12 F_value_a9 F_coder_a9 Vb rfl rfl (by decide) (by simp) (by simp) (by decide) (by decide) (by decide) (by decide) rfl fun hs Ks Ss => ?_
    replace K := K.trans Ks (allS (Or.inr sz_a9) all0)
    replace A12 := A12.keep Ks
    replace V18 := V18.keep Ks (ninS (Ne.symm ne_a9_a15) nin0)
    refine at' (ce' := 6) (sl' := 12) (pc' := 42) (L' := #[.val (.int i), .val (.int j), .val (.int (ch0 i)), .val (.int (ch1 i)), .val (.int (ch2 i))]) (S' := [(.ref a9)]) rfl rfl rfl rfl rfl ?_
    exact retA d_method_3_42 rfl rfl rfl (by decide) (by decide) ⟨a9, rfl, keepExt K, by simpa [nm, q0] using Ss⟩
set_option maxRecDepth 65536 in
set_option maxHeartbeats 40000000 in
theorem rm_rec (l : Launch) (Z : State) (a0 : Array Value) (hw : ∀ d ∈ tables_1, d.before a0 Z = true) (hEL : EW Z a0 consts_1) (n0 : Nat) (a : Addr) (h : Heap)   :
    Met l false Z consts_1 n0 (⟨"java/lang/Record", "<init>", "()V"⟩ : MethodName) jdk_30_method_1_code 1 none ({ frames := 1, cells := 0, slots := 0, locals := 12 } : Room) [] #[(.ref a)] [] h (fun v h' => v = none ∧ h' = h) := by
  refine Met.of_body (a0 := a0) (L0 := #[.val (.ref a)]) (plainFor_of_name (by first | (simp [plainName, overriddenIn]; done) | decide +kernel)) (fun m => by first | rfl | (simp [entryFrame, mkF, argsToLocals, Value.category]; done)) hw hEL (by decide) ?_
  refine aloadN (pc' := 1) d_jdk_30_method_1_0 rfl rfl rfl ?_
  refine initObj (i := 48) (i2 := 16) (i3 := 17) (Wd := 0) (pc' := 4) d_jdk_30_method_1_1 rfl rfl rfl rfl (by decide) (Nat.le_of_ble_eq_true rfl) (by decide) rfl ?_
  exact retV d_jdk_30_method_1_4 rfl (by decide) (by decide) ⟨rfl, rfl⟩
set_option maxRecDepth 65536 in
set_option maxHeartbeats 40000000 in
theorem rm_gi (l : Launch) (Z : State) (a0 : Array Value) (hw : ∀ d ∈ tables_1, d.before a0 Z = true) (hEL : EW Z a0 consts_1) (n0 : Nat) (a s : Addr) (o : Int32) (h : Heap) (Ea : Exa Z h a "com/example/berth/berth/engine/Grouping") (Fn : Fld Z h a "com/example/berth/berth/engine/Grouping" "name" "Ljava/lang/String;" .null) (Fo : Fld Z h a "com/example/berth/berth/engine/Grouping" "ofOneHost" "Z" (.int (0 : Int32))) (ho : o = 0 ∨ o = 1) :
    Met l false Z consts_1 n0 (⟨"com/example/berth/berth/engine/Grouping", "<init>", "(Ljava/lang/String;Z)V"⟩ : MethodName) prog_32_method_1_code 3 none ({ frames := 2, cells := 0, slots := 0, locals := 24 } : Room) [] #[(.ref a), (.ref s), (.int o)] [a] h (fun v h' => v = none ∧ Keep h h' [a] ∧ Exa Z h' a "com/example/berth/berth/engine/Grouping" ∧ Fld Z h' a "com/example/berth/berth/engine/Grouping" "name" "Ljava/lang/String;" (.ref s) ∧ Fld Z h' a "com/example/berth/berth/engine/Grouping" "ofOneHost" "Z" (.int o)) := by
  refine Met.of_body (a0 := a0) (L0 := #[.val (.ref a), .val (.ref s), .val (.int o)]) (plainFor_of_name (by first | (simp [plainName, overriddenIn]; done) | decide +kernel)) (fun m => by first | rfl | (simp [entryFrame, mkF, argsToLocals, Value.category]; done)) hw hEL (by decide) ?_
  have K : Keep h h [a] := Keep.refl _ _
  refine aloadN (pc' := 1) d_prog_32_method_1_0 rfl rfl rfl ?_
  refine call (i := 47) (i2 := 46) (Wd := 0) (pc' := 4) (kInit (i := 43) (i2 := 44) (i4 := 47) (a := a) (argsL := []) (S' := []) (Wd := 0) d_prog_32_method_1_1 rfl rfl rfl rfl (by decide) rfl pd_2 rfl rfl (Nat.le_of_ble_eq_true rfl)) (rm_rec l Z a0 hw hEL n0 a _) rfl rfl (by simp) (by decide) (by decide) (by decide) (by decide) rfl fun v_ h74 P75 sz76 => ?_
  obtain ⟨rfl, e77⟩ := P75
  rw [e77]
  refine at' (ce' := 0) (sl' := 0) (pc' := 4) (L' := #[.val (.ref a), .val (.ref s), .val (.int o)]) (S' := []) rfl rfl rfl rfl rfl ?_
  refine aloadN (pc' := 5) d_prog_32_method_1_4 rfl rfl rfl ?_
  refine aloadN (pc' := 6) d_prog_32_method_1_5 rfl rfl rfl ?_
  refine putfield (i := 49) (i2 := 50) (i3 := 38) (pc' := 9) (v' := (.ref s)) (ty := (.object "java/lang/String")) d_prog_32_method_1_6 rfl (Or.inr ⟨rfl, rfl, rfl⟩) rfl Fn Ea (by decide) rfl rfl (by simp) rfl fun h78 W79 => ?_
  replace K := K.wr W79 (Or.inl (by simp))
  replace Ea := Ea.wr W79
  replace Fn := Fn.same W79
  replace Fo := Fo.other W79 (Or.inr (slot_ne (Or.inr (hw _ (List.mem_of_getElem? (i := 52) rfl))) (Or.inr (hw _ (List.mem_of_getElem? (i := 50) rfl))) (by decide) (t := .boolean) (t' := (.object "java/lang/String")) (by decide) (by decide)))
  refine aloadN (pc' := 10) d_prog_32_method_1_9 rfl rfl rfl ?_
  refine iloadN (pc' := 11) d_prog_32_method_1_10 rfl rfl ?_
  refine putfield (i := 51) (i2 := 52) (i3 := 38) (pc' := 14) (v' := (.int (nar .boolean o))) (ty := .boolean) d_prog_32_method_1_11 rfl (Or.inr ⟨rfl, rfl, rfl⟩) rfl Fo Ea (by decide) rfl (fits_nar_bool _) (by simp) rfl fun h80 W81 => ?_
  replace K := K.wr W81 (Or.inl (by simp))
  replace Ea := Ea.wr W81
  replace Fn := Fn.other W81 (Or.inr (slot_ne (Or.inr (hw _ (List.mem_of_getElem? (i := 50) rfl))) (Or.inr (hw _ (List.mem_of_getElem? (i := 52) rfl))) (by decide) (t := (.object "java/lang/String")) (t' := .boolean) (by decide) (by decide)))
  replace Fo := Fo.same W81
  have ho' : nar .boolean o = o := by rcases ho with rfl | rfl <;> decide
  rw [ho'] at Fo
  exact retV d_prog_32_method_1_14 rfl (by decide) (by decide) ⟨rfl, K, Ea, Fn, Fo⟩
set_option maxRecDepth 65536 in
set_option maxHeartbeats 40000000 in
theorem rm_ge (l : Launch) (Z : State) (a0 : Array Value) (hw : ∀ d ∈ tables_1, d.before a0 Z = true) (hEL : EW Z a0 consts_1) (n0 : Nat) (a b s t : Addr) (o1 o2 : Int32) (cs ds : List Int32) (h : Heap) (Ea : Exa Z h a "com/example/berth/berth/engine/Grouping") (Fna : Fld Z h a "com/example/berth/berth/engine/Grouping" "name" "Ljava/lang/String;" (.ref s)) (Foa : Fld Z h a "com/example/berth/berth/engine/Grouping" "ofOneHost" "Z" (.int o1)) (Ss : Str Z h s cs) (Eb : Exa Z h b "com/example/berth/berth/engine/Grouping") (Fnb : Fld Z h b "com/example/berth/berth/engine/Grouping" "name" "Ljava/lang/String;" (.ref t)) (Fob : Fld Z h b "com/example/berth/berth/engine/Grouping" "ofOneHost" "Z" (.int o2)) (Tt : Str Z h t ds) (hB : Sets Z) :
    Met l false Z consts_1 n0 (⟨"com/example/berth/berth/engine/Grouping", "equals", "(Ljava/lang/Object;)Z"⟩ : MethodName) prog_32_method_4_code 3 (some .boolean) ({ frames := 2, cells := 0, slots := 0, locals := 28 } : Room) [] #[(.ref a), (.ref b)] [] h (fun v h' => ∃ r : Int32, v = some (.int r) ∧ ((r = 1 ∧ (o1 = o2 ∧ cs = ds)) ∨ (r = 0 ∧ ¬ (o1 = o2 ∧ cs = ds))) ∧ h' = h) := by
  refine Met.of_body (a0 := a0) (L0 := #[.val (.ref a), .val (.ref b), .unset]) (plainFor_of_name (by first | (simp [plainName, overriddenIn]; done) | decide +kernel)) (fun m => by first | rfl | (simp [entryFrame, mkF, argsToLocals, Value.category]; done)) hw hEL (by decide) ?_
  refine aloadN (pc' := 1) d_prog_32_method_4_0 rfl rfl rfl ?_
  refine instanceofY (i := 58) (pc' := 4) d_prog_32_method_4_1 rfl (Ins.self Eb) rfl ?_
  refine ifF (pc' := 7) d_prog_32_method_4_4 (by decide : ¬ ((1 : Int32) = (0 : Int32))) rfl ?_
  refine aloadN (pc' := 8) d_prog_32_method_4_7 rfl rfl rfl ?_
  refine checkcast (i := 58) (pc' := 11) d_prog_32_method_4_8 rfl (Ins.self Eb) rfl ?_
  refine astoreN (pc' := 12) (L' := #[.val (.ref a), .val (.ref b), .val (.ref b)]) d_prog_32_method_4_11 rfl rfl rfl ?_
  refine aloadN (pc' := 13) d_prog_32_method_4_12 rfl rfl rfl ?_
  refine getfield (i := 51) (pc' := 16) d_prog_32_method_4_13 rfl Foa rfl ?_
  refine aloadN (pc' := 17) d_prog_32_method_4_16 rfl rfl rfl ?_
  refine getfield (i := 51) (pc' := 20) d_prog_32_method_4_17 rfl Fob rfl ?_
  refine icmp (pc' := 41) (pcF := 23) d_prog_32_method_4_20 (by decide) rfl rfl (fun (qo : ¬ (o1 = o2)) => ?_) (fun (qo : o1 = o2) => ?_)
  · skip
    refine iconst (pc' := 42) (v := (0 : Int32)) d_prog_32_method_4_41 rfl rfl ?_
    exact retI d_prog_32_method_4_42 rfl (Or.inr (Or.inl rfl)) rfl (by decide) (by decide) ⟨0, rfl, Or.inr ⟨rfl, fun q => qo q.1⟩, rfl⟩
  · skip
    refine aloadN (pc' := 24) d_prog_32_method_4_23 rfl rfl rfl ?_
    refine getfield (i := 49) (pc' := 27) d_prog_32_method_4_24 rfl Fna rfl ?_
    refine aloadN (pc' := 28) d_prog_32_method_4_27 rfl rfl rfl ?_
    refine getfield (i := 49) (pc' := 31) d_prog_32_method_4_28 rfl Fnb rfl ?_
    refine strEq (i := 5) (pc' := 34) hB (by decide +kernel) rfl (kVirt (i := 60) (i2 := 61) (i3 := 63) (i4 := 62) (C := "java/lang/String") (a := s) (argsL := [(.ref t)]) (S' := []) (Wd := 0) d_prog_32_method_4_31 rfl rfl rfl rfl Ss.exa (by decide) rfl pd_3 rfl rfl (Nat.le_of_ble_eq_true rfl)) Ss Tt (by decide) (by decide) (by decide) (by decide) rfl fun b qb => ?_
    rcases qb with ⟨rfl, qb⟩ | ⟨rfl, qb⟩
    · skip
      refine ifF (pc' := 37) d_prog_32_method_4_34 (by decide : ¬ ((1 : Int32) = (0 : Int32))) rfl ?_
      refine iconst (pc' := 38) (v := (1 : Int32)) d_prog_32_method_4_37 rfl rfl ?_
      refine goto (pc' := 42) d_prog_32_method_4_38 (by decide) rfl ?_
      exact retI d_prog_32_method_4_42 rfl (Or.inr (Or.inl rfl)) rfl (by decide) (by decide) ⟨1, rfl, Or.inl ⟨rfl, qo, qb⟩, rfl⟩
    · skip
      refine ifT (pc' := 41) d_prog_32_method_4_34 (by decide : (0 : Int32) = (0 : Int32)) (by decide) rfl ?_
      refine iconst (pc' := 42) (v := (0 : Int32)) d_prog_32_method_4_41 rfl rfl ?_
      exact retI d_prog_32_method_4_42 rfl (Or.inr (Or.inl rfl)) rfl (by decide) (by decide) ⟨0, rfl, Or.inr ⟨rfl, fun q => qb q.2⟩, rfl⟩
set_option maxRecDepth 65536 in
set_option maxHeartbeats 40000000 in
theorem rm_geN (l : Launch) (Z : State) (a0 : Array Value) (hw : ∀ d ∈ tables_1, d.before a0 Z = true) (hEL : EW Z a0 consts_1) (n0 : Nat) (a : Addr) (h : Heap)   :
    Met l false Z consts_1 n0 (⟨"com/example/berth/berth/engine/Grouping", "equals", "(Ljava/lang/Object;)Z"⟩ : MethodName) prog_32_method_4_code 3 (some .boolean) ({ frames := 2, cells := 0, slots := 0, locals := 28 } : Room) [] #[(.ref a), .null] [] h (fun v h' => v = some (.int 0) ∧ h' = h) := by
  refine Met.of_body (a0 := a0) (L0 := #[.val (.ref a), .val .null, .unset]) (plainFor_of_name (by first | (simp [plainName, overriddenIn]; done) | decide +kernel)) (fun m => by first | rfl | (simp [entryFrame, mkF, argsToLocals, Value.category]; done)) hw hEL (by decide) ?_
  refine aloadN (pc' := 1) d_prog_32_method_4_0 rfl rfl rfl ?_
  refine instanceofNull (pc' := 4) d_prog_32_method_4_1 rfl ?_
  refine ifT (pc' := 41) d_prog_32_method_4_4 (by decide : (0 : Int32) = (0 : Int32)) (by decide) rfl ?_
  refine iconst (pc' := 42) (v := (0 : Int32)) d_prog_32_method_4_41 rfl rfl ?_
  exact retI d_prog_32_method_4_42 rfl (Or.inr (Or.inl rfl)) rfl (by decide) (by decide) ⟨rfl, rfl⟩
set_option maxRecDepth 65536 in
set_option maxHeartbeats 40000000 in
theorem rm_geS (l : Launch) (Z : State) (a0 : Array Value) (hw : ∀ d ∈ tables_1, d.before a0 Z = true) (hEL : EW Z a0 consts_1) (n0 : Nat) (a b : Addr) (h : Heap)  (Eb : Exa Z h b "java/lang/String") :
    Met l false Z consts_1 n0 (⟨"com/example/berth/berth/engine/Grouping", "equals", "(Ljava/lang/Object;)Z"⟩ : MethodName) prog_32_method_4_code 3 (some .boolean) ({ frames := 2, cells := 0, slots := 0, locals := 28 } : Room) [] #[(.ref a), (.ref b)] [] h (fun v h' => v = some (.int 0) ∧ h' = h) := by
  refine Met.of_body (a0 := a0) (L0 := #[.val (.ref a), .val (.ref b), .unset]) (plainFor_of_name (by first | (simp [plainName, overriddenIn]; done) | decide +kernel)) (fun m => by first | rfl | (simp [entryFrame, mkF, argsToLocals, Value.category]; done)) hw hEL (by decide) ?_
  refine aloadN (pc' := 1) d_prog_32_method_4_0 rfl rfl rfl ?_
  refine instanceofN (i := 58) (pc' := 4) d_prog_32_method_4_1 rfl Eb (ns_no (hw _ (List.mem_of_getElem? (i := 65) rfl)) (hw _ (List.mem_of_getElem? (i := 38) rfl)) (NS.step (hw _ (List.mem_of_getElem? (i := 65) rfl)) (ns_root (hw _ (List.mem_of_getElem? (i := 66) rfl)) (hw _ (List.mem_of_getElem? (i := 38) rfl)) (by decide)) (by decide)) (by decide)) rfl ?_
  refine ifT (pc' := 41) d_prog_32_method_4_4 (by decide : (0 : Int32) = (0 : Int32)) (by decide) rfl ?_
  refine iconst (pc' := 42) (v := (0 : Int32)) d_prog_32_method_4_41 rfl rfl ?_
  exact retI d_prog_32_method_4_42 rfl (Or.inr (Or.inl rfl)) rfl (by decide) (by decide) ⟨rfl, rfl⟩
theorem own_and3 (x : Int32) : x &&& 3 = 0 ∨ x &&& 3 = 1 ∨ x &&& 3 = 2 ∨ x &&& 3 = 3 := by
  have h := c_and x 3 (by decide)
  have e3 : (3 : Int32).toInt = 3 := rfl
  rw [e3] at h
  have hc : (x &&& 3).toInt = 0 ∨ (x &&& 3).toInt = 1 ∨ (x &&& 3).toInt = 2 ∨ (x &&& 3).toInt = 3 := by omega
  rcases hc with q | q | q | q
  · exact Or.inl (Int32.toInt_inj.mp q)
  · exact Or.inr (Or.inl (Int32.toInt_inj.mp q))
  · exact Or.inr (Or.inr (Or.inl (Int32.toInt_inj.mp q)))
  · exact Or.inr (Or.inr (Or.inr (Int32.toInt_inj.mp q)))
theorem own_len0 {i u n2 : Int32} (h : n2 = 0 ∨ n2 = 1 ∨ n2 = 2 ∨ n2 = 3) (q : ¬ ((0 : Int32) = n2)) : ¬ nm i (0 : Int32) = nm u n2 := by
  rcases h with rfl | rfl | rfl | rfl <;> first | exact absurd rfl q | (simp [nm]; done) | (intro e; exact absurd (congrArg List.length e) (by simp [nm]))
theorem own_eq0 {i u : Int32}  : nm i (0 : Int32) = nm u (0 : Int32) := by
  simp [nm]
theorem own_len1 {i u n2 : Int32} (h : n2 = 0 ∨ n2 = 1 ∨ n2 = 2 ∨ n2 = 3) (q : ¬ ((1 : Int32) = n2)) : ¬ nm i (1 : Int32) = nm u n2 := by
  rcases h with rfl | rfl | rfl | rfl <;> first | exact absurd rfl q | (simp [nm]; done) | (intro e; exact absurd (congrArg List.length e) (by simp [nm]))
theorem own_eq1 {i u : Int32} (q0 : (i &&& (255 : Int32)) = (u &&& (255 : Int32))) : nm i (1 : Int32) = nm u (1 : Int32) := by
  have e0 : ch0 i = ch0 u := q0
  simp [nm, e0]
theorem own_ne1_0 {i u : Int32} (q : ¬ ((i &&& (255 : Int32)) = (u &&& (255 : Int32)))) : ¬ nm i (1 : Int32) = nm u (1 : Int32) := by
  intro e
  simp [nm, ch0, ch1, ch2] at e
  exact q (by first | exact e | exact e.1 | exact e.2 | exact e.2.1 | exact e.2.2)
theorem own_len2 {i u n2 : Int32} (h : n2 = 0 ∨ n2 = 1 ∨ n2 = 2 ∨ n2 = 3) (q : ¬ ((2 : Int32) = n2)) : ¬ nm i (2 : Int32) = nm u n2 := by
  rcases h with rfl | rfl | rfl | rfl <;> first | exact absurd rfl q | (simp [nm]; done) | (intro e; exact absurd (congrArg List.length e) (by simp [nm]))
theorem own_eq2 {i u : Int32} (q0 : (i &&& (255 : Int32)) = (u &&& (255 : Int32))) (q1 : (((i.toUInt32 >>> ((8 : Int32) &&& 31).toUInt32).toInt32) &&& (255 : Int32)) = (((u.toUInt32 >>> ((8 : Int32) &&& 31).toUInt32).toInt32) &&& (255 : Int32))) : nm i (2 : Int32) = nm u (2 : Int32) := by
  have e0 : ch0 i = ch0 u := q0
  have e1 : ch1 i = ch1 u := q1
  simp [nm, e0, e1]
theorem own_ne2_0 {i u : Int32} (q : ¬ ((i &&& (255 : Int32)) = (u &&& (255 : Int32)))) : ¬ nm i (2 : Int32) = nm u (2 : Int32) := by
  intro e
  simp [nm, ch0, ch1, ch2] at e
  exact q (by first | exact e | exact e.1 | exact e.2 | exact e.2.1 | exact e.2.2)
theorem own_ne2_1 {i u : Int32} (q : ¬ ((((i.toUInt32 >>> ((8 : Int32) &&& 31).toUInt32).toInt32) &&& (255 : Int32)) = (((u.toUInt32 >>> ((8 : Int32) &&& 31).toUInt32).toInt32) &&& (255 : Int32)))) : ¬ nm i (2 : Int32) = nm u (2 : Int32) := by
  intro e
  simp [nm, ch0, ch1, ch2] at e
  exact q (by first | exact e | exact e.1 | exact e.2 | exact e.2.1 | exact e.2.2)
theorem own_len3 {i u n2 : Int32} (h : n2 = 0 ∨ n2 = 1 ∨ n2 = 2 ∨ n2 = 3) (q : ¬ ((3 : Int32) = n2)) : ¬ nm i (3 : Int32) = nm u n2 := by
  rcases h with rfl | rfl | rfl | rfl <;> first | exact absurd rfl q | (simp [nm]; done) | (intro e; exact absurd (congrArg List.length e) (by simp [nm]))
theorem own_eq3 {i u : Int32} (q0 : (i &&& (255 : Int32)) = (u &&& (255 : Int32))) (q1 : (((i.toUInt32 >>> ((8 : Int32) &&& 31).toUInt32).toInt32) &&& (255 : Int32)) = (((u.toUInt32 >>> ((8 : Int32) &&& 31).toUInt32).toInt32) &&& (255 : Int32))) (q2 : (((i.toUInt32 >>> ((16 : Int32) &&& 31).toUInt32).toInt32) &&& (255 : Int32)) = (((u.toUInt32 >>> ((16 : Int32) &&& 31).toUInt32).toInt32) &&& (255 : Int32))) : nm i (3 : Int32) = nm u (3 : Int32) := by
  have e0 : ch0 i = ch0 u := q0
  have e1 : ch1 i = ch1 u := q1
  have e2 : ch2 i = ch2 u := q2
  simp [nm, e0, e1, e2]
theorem own_ne3_0 {i u : Int32} (q : ¬ ((i &&& (255 : Int32)) = (u &&& (255 : Int32)))) : ¬ nm i (3 : Int32) = nm u (3 : Int32) := by
  intro e
  simp [nm, ch0, ch1, ch2] at e
  exact q (by first | exact e | exact e.1 | exact e.2 | exact e.2.1 | exact e.2.2)
theorem own_ne3_1 {i u : Int32} (q : ¬ ((((i.toUInt32 >>> ((8 : Int32) &&& 31).toUInt32).toInt32) &&& (255 : Int32)) = (((u.toUInt32 >>> ((8 : Int32) &&& 31).toUInt32).toInt32) &&& (255 : Int32)))) : ¬ nm i (3 : Int32) = nm u (3 : Int32) := by
  intro e
  simp [nm, ch0, ch1, ch2] at e
  exact q (by first | exact e | exact e.1 | exact e.2 | exact e.2.1 | exact e.2.2)
theorem own_ne3_2 {i u : Int32} (q : ¬ ((((i.toUInt32 >>> ((16 : Int32) &&& 31).toUInt32).toInt32) &&& (255 : Int32)) = (((u.toUInt32 >>> ((16 : Int32) &&& 31).toUInt32).toInt32) &&& (255 : Int32)))) : ¬ nm i (3 : Int32) = nm u (3 : Int32) := by
  intro e
  simp [nm, ch0, ch1, ch2] at e
  exact q (by first | exact e | exact e.1 | exact e.2 | exact e.2.1 | exact e.2.2)
set_option maxRecDepth 65536 in
set_option maxHeartbeats 40000000 in
theorem law_met (l : Launch) (Z : State) (a0 : Array Value) (hw : ∀ d ∈ tables_1, d.before a0 Z = true) (hEL : EW Z a0 consts_1) (n0 : Nat) (i0 i1 i2 i3 : Int32) (h : Heap)  (hB : Sets Z) :
    Met l false Z consts_1 n0 x code maxLocals ret room_1 tables_1 #[(.int i0), (.int i1), (.int i2), (.int i3)] [] h (fun v h' => v = some (.int 1)) := by
  refine Met.of_body (a0 := a0) (L0 := #[.val (.int i0), .val (.int i1), .val (.int i2), .val (.int i3), .unset, .unset, .unset, .unset, .unset, .unset, .unset, .unset, .unset, .unset, .unset, .unset]) (plainFor_of_name (by first | (simp [plainName, overriddenIn]; done) | decide +kernel)) (fun m => by first | rfl | (simp [entryFrame, mkF, argsToLocals, Value.category, maxLocals]; done)) hw hEL (by decide) ?_
  obtain ⟨n1, en1⟩ : ∃ z, z = (i2 &&& 3) := ⟨_, rfl⟩
  obtain ⟨n2, en2⟩ : ∃ z, z = (((i2.toUInt32 >>> ((2 : Int32) &&& 31).toUInt32).toInt32) &&& 3) := ⟨_, rfl⟩
  have hn1 := own_and3 i2
  rw [← en1] at hn1
  have hn2 := own_and3 ((i2.toUInt32 >>> ((2 : Int32) &&& 31).toUInt32).toInt32)
  rw [← en2] at hn2
  have J51 : ∀ o1 o2 u : Int32, (o1 = 0 ∨ o1 = 1) → (o2 = 0 ∨ o2 = 1) → Wq l false Z consts_1 a0 n0 x code maxLocals ret room_1 h (fun v h' => v = some (.int 1)) [] h 0 0 51 #[.val (.int i0), .val (.int i1), .val (.int i2), .val (.int i3), .val (.int n1), .val (.int n2), .val (.int o1), .val (.int o2), .val (.int u), .unset, .unset, .unset, .unset, .unset, .unset, .unset] [] := by
    intro o1 o2 u ho1 ho2
    refine iloadN (pc' := 52) at_51 rfl rfl ?_
    refine iload (pc' := 54) at_52 rfl rfl ?_
    refine call (i := 3) (i2 := 2) (Wd := 0) (pc' := 57) (kStatic (i := 0) (i2 := 1) (i3 := 2) (i4 := 3) (argsL := [(.int i0), (.int n1)]) (S' := []) (Wd := 0) at_54 rfl rfl rfl rfl (by decide) rfl pd_4 rfl rfl (Nat.le_of_ble_eq_true rfl)) (rm_name l Z a0 hw hEL n0 i0 n1 _ hB) rfl rfl (by simp) (by decide) (by decide) (by decide) (by decide) rfl fun v_ h82 P83 sz84 => ?_
    obtain ⟨s1, rfl, E1, S1⟩ := P83
    refine at' (ce' := 6) (sl' := 18) (pc' := 57) (L' := #[.val (.int i0), .val (.int i1), .val (.int i2), .val (.int i3), .val (.int n1), .val (.int n2), .val (.int o1), .val (.int o2), .val (.int u), .unset, .unset, .unset, .unset, .unset, .unset, .unset]) (S' := [(.ref s1)]) rfl rfl rfl rfl rfl ?_
    refine astore (pc' := 59) (L' := #[.val (.int i0), .val (.int i1), .val (.int i2), .val (.int i3), .val (.int n1), .val (.int n2), .val (.int o1), .val (.int o2), .val (.int u), .val (.ref s1), .unset, .unset, .unset, .unset, .unset, .unset]) at_57 rfl rfl rfl ?_
    refine iload (pc' := 61) at_59 rfl rfl ?_
    refine iload (pc' := 63) at_61 rfl rfl ?_
    refine call (i := 3) (i2 := 2) (Wd := 0) (pc' := 66) (kStatic (i := 0) (i2 := 1) (i3 := 2) (i4 := 3) (argsL := [(.int u), (.int n2)]) (S' := []) (Wd := 0) at_63 rfl rfl rfl rfl (by decide) rfl pd_4 rfl rfl (Nat.le_of_ble_eq_true rfl)) (rm_name l Z a0 hw hEL n0 u n2 _ hB) rfl rfl (by simp) (by decide) (by decide) (by decide) (by decide) rfl fun v_ h85 P86 sz87 => ?_
    obtain ⟨s2, rfl, E2, S2⟩ := P86
    replace S1 := S1.ext E2
    refine at' (ce' := 12) (sl' := 36) (pc' := 66) (L' := #[.val (.int i0), .val (.int i1), .val (.int i2), .val (.int i3), .val (.int n1), .val (.int n2), .val (.int o1), .val (.int o2), .val (.int u), .val (.ref s1), .unset, .unset, .unset, .unset, .unset, .unset]) (S' := [(.ref s2)]) rfl rfl rfl rfl rfl ?_
    refine astore (pc' := 68) (L' := #[.val (.int i0), .val (.int i1), .val (.int i2), .val (.int i3), .val (.int n1), .val (.int n2), .val (.int o1), .val (.int o2), .val (.int u), .val (.ref s1), .val (.ref s2), .unset, .unset, .unset, .unset, .unset]) at_66 rfl rfl rfl ?_
    have J171 : ∀ bb ee : Int32, ((ee = 1 ∧ (o1 = o2 ∧ nm i0 n1 = nm u n2)) ∨ (ee = 0 ∧ ¬ (o1 = o2 ∧ nm i0 n1 = nm u n2))) → Wq l false Z consts_1 a0 n0 x code maxLocals ret room_1 h (fun v h' => v = some (.int 1)) [] h85 12 36 171 #[.val (.int i0), .val (.int i1), .val (.int i2), .val (.int i3), .val (.int n1), .val (.int n2), .val (.int o1), .val (.int o2), .val (.int u), .val (.ref s1), .val (.ref s2), .val (.int bb), .unset, .unset, .unset, .unset] [(.int ee)] := by
      intro bb ee hee
      refine istore (pc' := 173) (L' := #[.val (.int i0), .val (.int i1), .val (.int i2), .val (.int i3), .val (.int n1), .val (.int n2), .val (.int o1), .val (.int o2), .val (.int u), .val (.ref s1), .val (.ref s2), .val (.int bb), .val (.int ee), .unset, .unset, .unset]) at_171 rfl rfl ?_
      refine new (i := 37) (i2 := 38) (i3 := 39) (pc' := 176) at_173 rfl rfl rfl (by decide) (by decide) rfl fun h88 a89 g90 E91 A92 D93 => ?_
      have ne_s1_a89 : s1 ≠ a89 := Nat.ne_of_lt (by rw [g90]; exact S1.lt)
      have ne_s2_a89 : s2 ≠ a89 := Nat.ne_of_lt (by rw [g90]; exact S2.lt)
      replace S1 := S1.ext E91
      replace S2 := S2.ext E91
      have F_name_a89 : Fld Z h88 a89 "com/example/berth/berth/engine/Grouping" "name" "Ljava/lang/String;" .null := D93 (Or.inr (hw _ (List.mem_of_getElem? (i := 50) rfl))) (ty := (.object "java/lang/String")) (by decide)
      have F_ofOneHost_a89 : Fld Z h88 a89 "com/example/berth/berth/engine/Grouping" "ofOneHost" "Z" (.int (0 : Int32)) := D93 (Or.inr (hw _ (List.mem_of_getElem? (i := 52) rfl))) (ty := .boolean) (by decide)
      refine dup (pc' := 177) at_176 rfl rfl ?_
      refine aload (pc' := 179) at_177 rfl rfl rfl ?_
      refine iload (pc' := 181) at_179 rfl rfl ?_
      refine call (i := 42) (i2 := 39) (Wd := 1) (pc' := 184) (kInit (i := 40) (i2 := 41) (i4 := 42) (a := a89) (argsL := [(.ref s1), (.int o1)]) (S' := [(.ref a89)]) (Wd := 1) at_181 rfl rfl rfl rfl (by decide) rfl pd_5 rfl rfl (Nat.le_of_ble_eq_true rfl)) (rm_gi l Z a0 hw hEL n0 a89 s1 o1 _ A92 F_name_a89 F_ofOneHost_a89 ho1) rfl rfl (by simp) (by decide) (by decide) (by decide) (by decide) rfl fun v_ h94 P95 sz96 => ?_
      obtain ⟨rfl, Ka, Ea, Fna, Foa⟩ := P95
      replace S1 := S1.keep1 Ka ne_s1_a89 A92 (hw _ (List.mem_of_getElem? (i := 38) rfl))
      replace S2 := S2.keep1 Ka ne_s2_a89 A92 (hw _ (List.mem_of_getElem? (i := 38) rfl))
      replace A92 := A92.keep Ka
      refine at' (ce' := 13) (sl' := 38) (pc' := 184) (L' := #[.val (.int i0), .val (.int i1), .val (.int i2), .val (.int i3), .val (.int n1), .val (.int n2), .val (.int o1), .val (.int o2), .val (.int u), .val (.ref s1), .val (.ref s2), .val (.int bb), .val (.int ee), .unset, .unset, .unset]) (S' := [(.ref a89)]) rfl rfl rfl rfl rfl ?_
      refine astore (pc' := 186) (L' := #[.val (.int i0), .val (.int i1), .val (.int i2), .val (.int i3), .val (.int n1), .val (.int n2), .val (.int o1), .val (.int o2), .val (.int u), .val (.ref s1), .val (.ref s2), .val (.int bb), .val (.int ee), .val (.ref a89), .unset, .unset]) at_184 rfl rfl rfl ?_
      refine new (i := 37) (i2 := 38) (i3 := 39) (pc' := 189) at_186 rfl rfl rfl (by decide) (by decide) rfl fun h97 a98 g99 E100 A101 D102 => ?_
      have ne_s1_a98 : s1 ≠ a98 := Nat.ne_of_lt (by rw [g99]; exact S1.lt)
      have ne_s2_a98 : s2 ≠ a98 := Nat.ne_of_lt (by rw [g99]; exact S2.lt)
      have ne_a89_a98 : a89 ≠ a98 := Nat.ne_of_lt (by rw [g99]; exact Ea.lt)
      replace S1 := S1.ext E100
      replace S2 := S2.ext E100
      replace Ea := Ea.ext E100
      replace Fna := Fna.ext E100
      replace Foa := Foa.ext E100
      have F_name_a98 : Fld Z h97 a98 "com/example/berth/berth/engine/Grouping" "name" "Ljava/lang/String;" .null := D102 (Or.inr (hw _ (List.mem_of_getElem? (i := 50) rfl))) (ty := (.object "java/lang/String")) (by decide)
      have F_ofOneHost_a98 : Fld Z h97 a98 "com/example/berth/berth/engine/Grouping" "ofOneHost" "Z" (.int (0 : Int32)) := D102 (Or.inr (hw _ (List.mem_of_getElem? (i := 52) rfl))) (ty := .boolean) (by decide)
      refine dup (pc' := 190) at_189 rfl rfl ?_
      refine aload (pc' := 192) at_190 rfl rfl rfl ?_
      refine iload (pc' := 194) at_192 rfl rfl ?_
      refine call (i := 42) (i2 := 39) (Wd := 1) (pc' := 197) (kInit (i := 40) (i2 := 41) (i4 := 42) (a := a98) (argsL := [(.ref s2), (.int o2)]) (S' := [(.ref a98)]) (Wd := 1) at_194 rfl rfl rfl rfl (by decide) rfl pd_5 rfl rfl (Nat.le_of_ble_eq_true rfl)) (rm_gi l Z a0 hw hEL n0 a98 s2 o2 _ A101 F_name_a98 F_ofOneHost_a98 ho2) rfl rfl (by simp) (by decide) (by decide) (by decide) (by decide) rfl fun v_ h103 P104 sz105 => ?_
      obtain ⟨rfl, Kb, Eb, Fnb, Fob⟩ := P104
      replace S1 := S1.keep1 Kb ne_s1_a98 A101 (hw _ (List.mem_of_getElem? (i := 38) rfl))
      replace S2 := S2.keep1 Kb ne_s2_a98 A101 (hw _ (List.mem_of_getElem? (i := 38) rfl))
      replace Ea := Ea.keep Kb
      replace Fna := Fna.keep Kb (ninS ne_a89_a98 nin0)
      replace Foa := Foa.keep Kb (ninS ne_a89_a98 nin0)
      replace A101 := A101.keep Kb
      refine at' (ce' := 14) (sl' := 40) (pc' := 197) (L' := #[.val (.int i0), .val (.int i1), .val (.int i2), .val (.int i3), .val (.int n1), .val (.int n2), .val (.int o1), .val (.int o2), .val (.int u), .val (.ref s1), .val (.ref s2), .val (.int bb), .val (.int ee), .val (.ref a89), .unset, .unset]) (S' := [(.ref a98)]) rfl rfl rfl rfl rfl ?_
      refine astore (pc' := 199) (L' := #[.val (.int i0), .val (.int i1), .val (.int i2), .val (.int i3), .val (.int n1), .val (.int n2), .val (.int o1), .val (.int o2), .val (.int u), .val (.ref s1), .val (.ref s2), .val (.int bb), .val (.int ee), .val (.ref a89), .val (.ref a98), .unset]) at_197 rfl rfl rfl ?_
      refine aload (pc' := 201) at_199 rfl rfl rfl ?_
      refine astore (pc' := 203) (L' := #[.val (.int i0), .val (.int i1), .val (.int i2), .val (.int i3), .val (.int n1), .val (.int n2), .val (.int o1), .val (.int o2), .val (.int u), .val (.ref s1), .val (.ref s2), .val (.int bb), .val (.int ee), .val (.ref a89), .val (.ref a98), .val (.ref s1)]) at_201 rfl rfl rfl ?_
      refine aload (pc' := 205) at_203 rfl rfl rfl ?_
      refine aload (pc' := 207) at_205 rfl rfl rfl ?_
      refine call (i := 57) (i2 := 39) (Wd := 0) (pc' := 210) (kVirt (i := 53) (i2 := 54) (i3 := 56) (i4 := 55) (C := "com/example/berth/berth/engine/Grouping") (a := a89) (argsL := [(.ref a98)]) (S' := []) (Wd := 0) at_207 rfl rfl rfl rfl Ea (by decide) rfl pd_3 rfl rfl (Nat.le_of_ble_eq_true rfl)) (rm_ge l Z a0 hw hEL n0 a89 a98 s1 s2 o1 o2 (nm i0 n1) (nm u n2) _ Ea Fna Foa S1 Eb Fnb Fob S2 hB) rfl rfl (by simp) (by decide) (by decide) (by decide) (by decide) rfl fun v_ h106 P107 sz108 => ?_
      obtain ⟨r1, rfl, hr1, er1⟩ := P107
      rw [er1]
      refine at' (ce' := 14) (sl' := 40) (pc' := 210) (L' := #[.val (.int i0), .val (.int i1), .val (.int i2), .val (.int i3), .val (.int n1), .val (.int n2), .val (.int o1), .val (.int o2), .val (.int u), .val (.ref s1), .val (.ref s2), .val (.int bb), .val (.int ee), .val (.ref a89), .val (.ref a98), .val (.ref s1)]) (S' := [(.int r1)]) rfl rfl rfl rfl rfl ?_
      refine iload (pc' := 212) at_210 rfl rfl ?_
      refine icmpF (pc' := 215) at_212 (both hr1 hee Iff.rfl : r1 = ee) rfl ?_
      refine aload (pc' := 217) at_215 rfl rfl rfl ?_
      refine aload (pc' := 219) at_217 rfl rfl rfl ?_
      refine call (i := 57) (i2 := 39) (Wd := 0) (pc' := 222) (kVirt (i := 53) (i2 := 54) (i3 := 56) (i4 := 55) (C := "com/example/berth/berth/engine/Grouping") (a := a98) (argsL := [(.ref a89)]) (S' := []) (Wd := 0) at_219 rfl rfl rfl rfl Eb (by decide) rfl pd_3 rfl rfl (Nat.le_of_ble_eq_true rfl)) (rm_ge l Z a0 hw hEL n0 a98 a89 s2 s1 o2 o1 (nm u n2) (nm i0 n1) _ Eb Fnb Fob S2 Ea Fna Foa S1 hB) rfl rfl (by simp) (by decide) (by decide) (by decide) (by decide) rfl fun v_ h109 P110 sz111 => ?_
      obtain ⟨r2, rfl, hr2, er2⟩ := P110
      rw [er2]
      refine at' (ce' := 14) (sl' := 40) (pc' := 222) (L' := #[.val (.int i0), .val (.int i1), .val (.int i2), .val (.int i3), .val (.int n1), .val (.int n2), .val (.int o1), .val (.int o2), .val (.int u), .val (.ref s1), .val (.ref s2), .val (.int bb), .val (.int ee), .val (.ref a89), .val (.ref a98), .val (.ref s1)]) (S' := [(.int r2)]) rfl rfl rfl rfl rfl ?_
      refine iload (pc' := 224) at_222 rfl rfl ?_
      refine icmpF (pc' := 227) at_224 (both hr2 hee ⟨fun q => ⟨q.1.symm, q.2.symm⟩, fun q => ⟨q.1.symm, q.2.symm⟩⟩ : r2 = ee) rfl ?_
      refine aload (pc' := 229) at_227 rfl rfl rfl ?_
      refine aload (pc' := 231) at_229 rfl rfl rfl ?_
      refine call (i := 57) (i2 := 39) (Wd := 0) (pc' := 234) (kVirt (i := 53) (i2 := 54) (i3 := 56) (i4 := 55) (C := "com/example/berth/berth/engine/Grouping") (a := a89) (argsL := [(.ref a89)]) (S' := []) (Wd := 0) at_231 rfl rfl rfl rfl Ea (by decide) rfl pd_3 rfl rfl (Nat.le_of_ble_eq_true rfl)) (rm_ge l Z a0 hw hEL n0 a89 a89 s1 s1 o1 o1 (nm i0 n1) (nm i0 n1) _ Ea Fna Foa S1 Ea Fna Foa S1 hB) rfl rfl (by simp) (by decide) (by decide) (by decide) (by decide) rfl fun v_ h112 P113 sz114 => ?_
      obtain ⟨r3, rfl, hr3, er3⟩ := P113
      rw [er3]
      refine at' (ce' := 14) (sl' := 40) (pc' := 234) (L' := #[.val (.int i0), .val (.int i1), .val (.int i2), .val (.int i3), .val (.int n1), .val (.int n2), .val (.int o1), .val (.int o2), .val (.int u), .val (.ref s1), .val (.ref s2), .val (.int bb), .val (.int ee), .val (.ref a89), .val (.ref a98), .val (.ref s1)]) (S' := [(.int r3)]) rfl rfl rfl rfl rfl ?_
      obtain rfl := yes hr3 ⟨rfl, rfl⟩
      refine ifF (pc' := 237) at_234 (by decide : ¬ ((1 : Int32) = (0 : Int32))) rfl ?_
      refine aload (pc' := 239) at_237 rfl rfl rfl ?_
      refine aconst_null (pc' := 240) at_239 rfl ?_
      refine call (i := 57) (i2 := 39) (Wd := 0) (pc' := 243) (kVirt (i := 53) (i2 := 54) (i3 := 56) (i4 := 55) (C := "com/example/berth/berth/engine/Grouping") (a := a89) (argsL := [.null]) (S' := []) (Wd := 0) at_240 rfl rfl rfl rfl Ea (by decide) rfl pd_3 rfl rfl (Nat.le_of_ble_eq_true rfl)) (rm_geN l Z a0 hw hEL n0 a89 _) rfl rfl (by simp) (by decide) (by decide) (by decide) (by decide) rfl fun v_ h115 P116 sz117 => ?_
      obtain ⟨rfl, e118⟩ := P116
      rw [e118]
      refine at' (ce' := 14) (sl' := 40) (pc' := 243) (L' := #[.val (.int i0), .val (.int i1), .val (.int i2), .val (.int i3), .val (.int n1), .val (.int n2), .val (.int o1), .val (.int o2), .val (.int u), .val (.ref s1), .val (.ref s2), .val (.int bb), .val (.int ee), .val (.ref a89), .val (.ref a98), .val (.ref s1)]) (S' := [(.int (0 : Int32))]) rfl rfl rfl rfl rfl ?_
      refine ifF (pc' := 246) at_243 (rfl : (0 : Int32) = (0 : Int32)) rfl ?_
      refine aload (pc' := 248) at_246 rfl rfl rfl ?_
      refine aload (pc' := 250) at_248 rfl rfl rfl ?_
      refine call (i := 57) (i2 := 39) (Wd := 0) (pc' := 253) (kVirt (i := 53) (i2 := 54) (i3 := 56) (i4 := 55) (C := "com/example/berth/berth/engine/Grouping") (a := a89) (argsL := [(.ref s1)]) (S' := []) (Wd := 0) at_250 rfl rfl rfl rfl Ea (by decide) rfl pd_3 rfl rfl (Nat.le_of_ble_eq_true rfl)) (rm_geS l Z a0 hw hEL n0 a89 s1 _ S1.exa) rfl rfl (by simp) (by decide) (by decide) (by decide) (by decide) rfl fun v_ h119 P120 sz121 => ?_
      obtain ⟨rfl, e122⟩ := P120
      rw [e122]
      refine at' (ce' := 14) (sl' := 40) (pc' := 253) (L' := #[.val (.int i0), .val (.int i1), .val (.int i2), .val (.int i3), .val (.int n1), .val (.int n2), .val (.int o1), .val (.int o2), .val (.int u), .val (.ref s1), .val (.ref s2), .val (.int bb), .val (.int ee), .val (.ref a89), .val (.ref a98), .val (.ref s1)]) (S' := [(.int (0 : Int32))]) rfl rfl rfl rfl rfl ?_
      refine ifF (pc' := 256) at_253 (rfl : (0 : Int32) = (0 : Int32)) rfl ?_
      refine iconst (pc' := 257) (v := (1 : Int32)) at_256 rfl rfl ?_
      refine goto (pc' := 261) at_257 (by decide) rfl ?_
      exact retI at_261 rfl (Or.inr (Or.inl rfl)) rfl (by decide) (by decide) rfl
    have J152 : ∀ bb : Int32, ((bb = 1 ∧ nm i0 n1 = nm u n2) ∨ (bb = 0 ∧ ¬ nm i0 n1 = nm u n2)) → Wq l false Z consts_1 a0 n0 x code maxLocals ret room_1 h (fun v h' => v = some (.int 1)) [] h85 12 36 152 #[.val (.int i0), .val (.int i1), .val (.int i2), .val (.int i3), .val (.int n1), .val (.int n2), .val (.int o1), .val (.int o2), .val (.int u), .val (.ref s1), .val (.ref s2), .unset, .unset, .unset, .unset, .unset] [(.int bb)] := by
      intro bb hbb
      refine istore (pc' := 154) (L' := #[.val (.int i0), .val (.int i1), .val (.int i2), .val (.int i3), .val (.int n1), .val (.int n2), .val (.int o1), .val (.int o2), .val (.int u), .val (.ref s1), .val (.ref s2), .val (.int bb), .unset, .unset, .unset, .unset]) at_152 rfl rfl ?_
      refine iload (pc' := 156) at_154 rfl rfl ?_
      refine iload (pc' := 158) at_156 rfl rfl ?_
      refine icmp (pc' := 170) (pcF := 161) at_158 (by decide) rfl rfl (fun (qo : ¬ (o1 = o2)) => ?_) (fun (qo : o1 = o2) => ?_)
      · skip
        refine iconst (pc' := 171) (v := (0 : Int32)) at_170 rfl rfl ?_
        exact J171 _ _ (Or.inr ⟨rfl, fun q => qo q.1⟩)
      · skip
        refine iload (pc' := 163) at_161 rfl rfl ?_
        rcases hbb with ⟨rfl, hq⟩ | ⟨rfl, hq⟩
        · skip
          refine ifF (pc' := 166) at_163 (by decide : ¬ ((1 : Int32) = (0 : Int32))) rfl ?_
          refine iconst (pc' := 167) (v := (1 : Int32)) at_166 rfl rfl ?_
          refine goto (pc' := 171) at_167 (by decide) rfl ?_
          exact J171 _ _ (Or.inl ⟨rfl, qo, hq⟩)
        · skip
          refine ifT (pc' := 170) at_163 (rfl : (0 : Int32) = (0 : Int32)) (by decide) rfl ?_
          refine iconst (pc' := 171) (v := (0 : Int32)) at_170 rfl rfl ?_
          exact J171 _ _ (Or.inr ⟨rfl, fun q => hq q.2⟩)
    rcases hn1 with rfl | rfl | rfl | rfl
    · skip
      refine iload (pc' := 70) at_68 rfl rfl ?_
      refine iload (pc' := 72) at_70 rfl rfl ?_
      refine icmp (pc' := 151) (pcF := 75) at_72 (by decide) rfl rfl (fun (qn : ¬ ((0 : Int32) = n2)) => ?_) (fun (qn : (0 : Int32) = n2) => ?_)
      · skip
        refine iconst (pc' := 152) (v := (0 : Int32)) at_151 rfl rfl ?_
        exact J152 _ (Or.inr ⟨rfl, own_len0 hn2 qn⟩)
      · skip
        subst qn
        refine iload (pc' := 77) at_75 rfl rfl ?_
        refine iconst (pc' := 78) (v := (1 : Int32)) at_77 rfl rfl ?_
        refine icmpT (pc' := 95) at_78 (by decide : (0 : Int32) < (1 : Int32)) (by decide) rfl ?_
        refine iload (pc' := 97) at_95 rfl rfl ?_
        refine iconst (pc' := 98) (v := (2 : Int32)) at_97 rfl rfl ?_
        refine icmpT (pc' := 121) at_98 (by decide : (0 : Int32) < (2 : Int32)) (by decide) rfl ?_
        refine iload (pc' := 123) at_121 rfl rfl ?_
        refine iconst (pc' := 124) (v := (3 : Int32)) at_123 rfl rfl ?_
        refine icmpT (pc' := 147) at_124 (by decide : (0 : Int32) < (3 : Int32)) (by decide) rfl ?_
        refine iconst (pc' := 148) (v := (1 : Int32)) at_147 rfl rfl ?_
        refine goto (pc' := 152) at_148 (by decide) rfl ?_
        exact J152 _ (Or.inl ⟨rfl, own_eq0⟩)
    · skip
      refine iload (pc' := 70) at_68 rfl rfl ?_
      refine iload (pc' := 72) at_70 rfl rfl ?_
      refine icmp (pc' := 151) (pcF := 75) at_72 (by decide) rfl rfl (fun (qn : ¬ ((1 : Int32) = n2)) => ?_) (fun (qn : (1 : Int32) = n2) => ?_)
      · skip
        refine iconst (pc' := 152) (v := (0 : Int32)) at_151 rfl rfl ?_
        exact J152 _ (Or.inr ⟨rfl, own_len1 hn2 qn⟩)
      · skip
        subst qn
        refine iload (pc' := 77) at_75 rfl rfl ?_
        refine iconst (pc' := 78) (v := (1 : Int32)) at_77 rfl rfl ?_
        refine icmpF (pc' := 81) at_78 (by decide : ¬ ((1 : Int32) < (1 : Int32))) rfl ?_
        refine iloadN (pc' := 82) at_81 rfl rfl ?_
        refine sipush (pc' := 85) (v := (255 : Int32)) at_82 rfl rfl ?_
        refine iand (pc' := 86) at_85 rfl ?_
        refine iload (pc' := 88) at_86 rfl rfl ?_
        refine sipush (pc' := 91) (v := (255 : Int32)) at_88 rfl rfl ?_
        refine iand (pc' := 92) at_91 rfl ?_
        refine icmp (pc' := 151) (pcF := 95) at_92 (by decide) rfl rfl (fun (qc0 : ¬ ((i0 &&& (255 : Int32)) = (u &&& (255 : Int32)))) => ?_) (fun (qc0 : (i0 &&& (255 : Int32)) = (u &&& (255 : Int32))) => ?_)
        · skip
          refine iconst (pc' := 152) (v := (0 : Int32)) at_151 rfl rfl ?_
          exact J152 _ (Or.inr ⟨rfl, own_ne1_0 qc0⟩)
        · skip
          refine iload (pc' := 97) at_95 rfl rfl ?_
          refine iconst (pc' := 98) (v := (2 : Int32)) at_97 rfl rfl ?_
          refine icmpT (pc' := 121) at_98 (by decide : (1 : Int32) < (2 : Int32)) (by decide) rfl ?_
          refine iload (pc' := 123) at_121 rfl rfl ?_
          refine iconst (pc' := 124) (v := (3 : Int32)) at_123 rfl rfl ?_
          refine icmpT (pc' := 147) at_124 (by decide : (1 : Int32) < (3 : Int32)) (by decide) rfl ?_
          refine iconst (pc' := 148) (v := (1 : Int32)) at_147 rfl rfl ?_
          refine goto (pc' := 152) at_148 (by decide) rfl ?_
          exact J152 _ (Or.inl ⟨rfl, own_eq1 qc0⟩)
    · skip
      refine iload (pc' := 70) at_68 rfl rfl ?_
      refine iload (pc' := 72) at_70 rfl rfl ?_
      refine icmp (pc' := 151) (pcF := 75) at_72 (by decide) rfl rfl (fun (qn : ¬ ((2 : Int32) = n2)) => ?_) (fun (qn : (2 : Int32) = n2) => ?_)
      · skip
        refine iconst (pc' := 152) (v := (0 : Int32)) at_151 rfl rfl ?_
        exact J152 _ (Or.inr ⟨rfl, own_len2 hn2 qn⟩)
      · skip
        subst qn
        refine iload (pc' := 77) at_75 rfl rfl ?_
        refine iconst (pc' := 78) (v := (1 : Int32)) at_77 rfl rfl ?_
        refine icmpF (pc' := 81) at_78 (by decide : ¬ ((2 : Int32) < (1 : Int32))) rfl ?_
        refine iloadN (pc' := 82) at_81 rfl rfl ?_
        refine sipush (pc' := 85) (v := (255 : Int32)) at_82 rfl rfl ?_
        refine iand (pc' := 86) at_85 rfl ?_
        refine iload (pc' := 88) at_86 rfl rfl ?_
        refine sipush (pc' := 91) (v := (255 : Int32)) at_88 rfl rfl ?_
        refine iand (pc' := 92) at_91 rfl ?_
        refine icmp (pc' := 151) (pcF := 95) at_92 (by decide) rfl rfl (fun (qc0 : ¬ ((i0 &&& (255 : Int32)) = (u &&& (255 : Int32)))) => ?_) (fun (qc0 : (i0 &&& (255 : Int32)) = (u &&& (255 : Int32))) => ?_)
        · skip
          refine iconst (pc' := 152) (v := (0 : Int32)) at_151 rfl rfl ?_
          exact J152 _ (Or.inr ⟨rfl, own_ne2_0 qc0⟩)
        · skip
          refine iload (pc' := 97) at_95 rfl rfl ?_
          refine iconst (pc' := 98) (v := (2 : Int32)) at_97 rfl rfl ?_
          refine icmpF (pc' := 101) at_98 (by decide : ¬ ((2 : Int32) < (2 : Int32))) rfl ?_
          refine iloadN (pc' := 102) at_101 rfl rfl ?_
          refine bipush (pc' := 104) (v := (8 : Int32)) at_102 rfl rfl ?_
          refine iushr (pc' := 105) at_104 rfl ?_
          refine sipush (pc' := 108) (v := (255 : Int32)) at_105 rfl rfl ?_
          refine iand (pc' := 109) at_108 rfl ?_
          refine iload (pc' := 111) at_109 rfl rfl ?_
          refine bipush (pc' := 113) (v := (8 : Int32)) at_111 rfl rfl ?_
          refine iushr (pc' := 114) at_113 rfl ?_
          refine sipush (pc' := 117) (v := (255 : Int32)) at_114 rfl rfl ?_
          refine iand (pc' := 118) at_117 rfl ?_
          refine icmp (pc' := 151) (pcF := 121) at_118 (by decide) rfl rfl (fun (qc1 : ¬ ((((i0.toUInt32 >>> ((8 : Int32) &&& 31).toUInt32).toInt32) &&& (255 : Int32)) = (((u.toUInt32 >>> ((8 : Int32) &&& 31).toUInt32).toInt32) &&& (255 : Int32)))) => ?_) (fun (qc1 : (((i0.toUInt32 >>> ((8 : Int32) &&& 31).toUInt32).toInt32) &&& (255 : Int32)) = (((u.toUInt32 >>> ((8 : Int32) &&& 31).toUInt32).toInt32) &&& (255 : Int32))) => ?_)
          · skip
            refine iconst (pc' := 152) (v := (0 : Int32)) at_151 rfl rfl ?_
            exact J152 _ (Or.inr ⟨rfl, own_ne2_1 qc1⟩)
          · skip
            refine iload (pc' := 123) at_121 rfl rfl ?_
            refine iconst (pc' := 124) (v := (3 : Int32)) at_123 rfl rfl ?_
            refine icmpT (pc' := 147) at_124 (by decide : (2 : Int32) < (3 : Int32)) (by decide) rfl ?_
            refine iconst (pc' := 148) (v := (1 : Int32)) at_147 rfl rfl ?_
            refine goto (pc' := 152) at_148 (by decide) rfl ?_
            exact J152 _ (Or.inl ⟨rfl, own_eq2 qc0 qc1⟩)
    · skip
      refine iload (pc' := 70) at_68 rfl rfl ?_
      refine iload (pc' := 72) at_70 rfl rfl ?_
      refine icmp (pc' := 151) (pcF := 75) at_72 (by decide) rfl rfl (fun (qn : ¬ ((3 : Int32) = n2)) => ?_) (fun (qn : (3 : Int32) = n2) => ?_)
      · skip
        refine iconst (pc' := 152) (v := (0 : Int32)) at_151 rfl rfl ?_
        exact J152 _ (Or.inr ⟨rfl, own_len3 hn2 qn⟩)
      · skip
        subst qn
        refine iload (pc' := 77) at_75 rfl rfl ?_
        refine iconst (pc' := 78) (v := (1 : Int32)) at_77 rfl rfl ?_
        refine icmpF (pc' := 81) at_78 (by decide : ¬ ((3 : Int32) < (1 : Int32))) rfl ?_
        refine iloadN (pc' := 82) at_81 rfl rfl ?_
        refine sipush (pc' := 85) (v := (255 : Int32)) at_82 rfl rfl ?_
        refine iand (pc' := 86) at_85 rfl ?_
        refine iload (pc' := 88) at_86 rfl rfl ?_
        refine sipush (pc' := 91) (v := (255 : Int32)) at_88 rfl rfl ?_
        refine iand (pc' := 92) at_91 rfl ?_
        refine icmp (pc' := 151) (pcF := 95) at_92 (by decide) rfl rfl (fun (qc0 : ¬ ((i0 &&& (255 : Int32)) = (u &&& (255 : Int32)))) => ?_) (fun (qc0 : (i0 &&& (255 : Int32)) = (u &&& (255 : Int32))) => ?_)
        · skip
          refine iconst (pc' := 152) (v := (0 : Int32)) at_151 rfl rfl ?_
          exact J152 _ (Or.inr ⟨rfl, own_ne3_0 qc0⟩)
        · skip
          refine iload (pc' := 97) at_95 rfl rfl ?_
          refine iconst (pc' := 98) (v := (2 : Int32)) at_97 rfl rfl ?_
          refine icmpF (pc' := 101) at_98 (by decide : ¬ ((3 : Int32) < (2 : Int32))) rfl ?_
          refine iloadN (pc' := 102) at_101 rfl rfl ?_
          refine bipush (pc' := 104) (v := (8 : Int32)) at_102 rfl rfl ?_
          refine iushr (pc' := 105) at_104 rfl ?_
          refine sipush (pc' := 108) (v := (255 : Int32)) at_105 rfl rfl ?_
          refine iand (pc' := 109) at_108 rfl ?_
          refine iload (pc' := 111) at_109 rfl rfl ?_
          refine bipush (pc' := 113) (v := (8 : Int32)) at_111 rfl rfl ?_
          refine iushr (pc' := 114) at_113 rfl ?_
          refine sipush (pc' := 117) (v := (255 : Int32)) at_114 rfl rfl ?_
          refine iand (pc' := 118) at_117 rfl ?_
          refine icmp (pc' := 151) (pcF := 121) at_118 (by decide) rfl rfl (fun (qc1 : ¬ ((((i0.toUInt32 >>> ((8 : Int32) &&& 31).toUInt32).toInt32) &&& (255 : Int32)) = (((u.toUInt32 >>> ((8 : Int32) &&& 31).toUInt32).toInt32) &&& (255 : Int32)))) => ?_) (fun (qc1 : (((i0.toUInt32 >>> ((8 : Int32) &&& 31).toUInt32).toInt32) &&& (255 : Int32)) = (((u.toUInt32 >>> ((8 : Int32) &&& 31).toUInt32).toInt32) &&& (255 : Int32))) => ?_)
          · skip
            refine iconst (pc' := 152) (v := (0 : Int32)) at_151 rfl rfl ?_
            exact J152 _ (Or.inr ⟨rfl, own_ne3_1 qc1⟩)
          · skip
            refine iload (pc' := 123) at_121 rfl rfl ?_
            refine iconst (pc' := 124) (v := (3 : Int32)) at_123 rfl rfl ?_
            refine icmpF (pc' := 127) at_124 (by decide : ¬ ((3 : Int32) < (3 : Int32))) rfl ?_
            refine iloadN (pc' := 128) at_127 rfl rfl ?_
            refine bipush (pc' := 130) (v := (16 : Int32)) at_128 rfl rfl ?_
            refine iushr (pc' := 131) at_130 rfl ?_
            refine sipush (pc' := 134) (v := (255 : Int32)) at_131 rfl rfl ?_
            refine iand (pc' := 135) at_134 rfl ?_
            refine iload (pc' := 137) at_135 rfl rfl ?_
            refine bipush (pc' := 139) (v := (16 : Int32)) at_137 rfl rfl ?_
            refine iushr (pc' := 140) at_139 rfl ?_
            refine sipush (pc' := 143) (v := (255 : Int32)) at_140 rfl rfl ?_
            refine iand (pc' := 144) at_143 rfl ?_
            refine icmp (pc' := 151) (pcF := 147) at_144 (by decide) rfl rfl (fun (qc2 : ¬ ((((i0.toUInt32 >>> ((16 : Int32) &&& 31).toUInt32).toInt32) &&& (255 : Int32)) = (((u.toUInt32 >>> ((16 : Int32) &&& 31).toUInt32).toInt32) &&& (255 : Int32)))) => ?_) (fun (qc2 : (((i0.toUInt32 >>> ((16 : Int32) &&& 31).toUInt32).toInt32) &&& (255 : Int32)) = (((u.toUInt32 >>> ((16 : Int32) &&& 31).toUInt32).toInt32) &&& (255 : Int32))) => ?_)
            · skip
              refine iconst (pc' := 152) (v := (0 : Int32)) at_151 rfl rfl ?_
              exact J152 _ (Or.inr ⟨rfl, own_ne3_2 qc2⟩)
            · skip
              refine iconst (pc' := 148) (v := (1 : Int32)) at_147 rfl rfl ?_
              refine goto (pc' := 152) at_148 (by decide) rfl ?_
              exact J152 _ (Or.inl ⟨rfl, own_eq3 qc0 qc1 qc2⟩)
  refine iloadN (pc' := 1) at_0 rfl rfl ?_
  refine iconst (pc' := 2) (v := (3 : Int32)) at_1 rfl rfl ?_
  refine iand (pc' := 3) at_2 rfl ?_
  rw [← en1]
  refine istore (pc' := 5) (L' := #[.val (.int i0), .val (.int i1), .val (.int i2), .val (.int i3), .val (.int n1), .unset, .unset, .unset, .unset, .unset, .unset, .unset, .unset, .unset, .unset, .unset]) at_3 rfl rfl ?_
  refine iloadN (pc' := 6) at_5 rfl rfl ?_
  refine iconst (pc' := 7) (v := (2 : Int32)) at_6 rfl rfl ?_
  refine iushr (pc' := 8) at_7 rfl ?_
  refine iconst (pc' := 9) (v := (3 : Int32)) at_8 rfl rfl ?_
  refine iand (pc' := 10) at_9 rfl ?_
  rw [← en2]
  refine istore (pc' := 12) (L' := #[.val (.int i0), .val (.int i1), .val (.int i2), .val (.int i3), .val (.int n1), .val (.int n2), .unset, .unset, .unset, .unset, .unset, .unset, .unset, .unset, .unset, .unset]) at_10 rfl rfl ?_
  refine iloadN (pc' := 13) at_12 rfl rfl ?_
  refine iconst (pc' := 14) (v := (1 : Int32)) at_13 rfl rfl ?_
  refine iand (pc' := 15) at_14 rfl ?_
  refine ifc (pc' := 22) (pcF := 18) at_15 (by decide) rfl rfl (fun (q1 : (i3 &&& (1 : Int32)) = (0 : Int32)) => ?_) (fun (q1 : ¬ ((i3 &&& (1 : Int32)) = (0 : Int32))) => ?_)
  · skip
    refine iconst (pc' := 23) (v := (0 : Int32)) at_22 rfl rfl ?_
    refine istore (pc' := 25) (L' := #[.val (.int i0), .val (.int i1), .val (.int i2), .val (.int i3), .val (.int n1), .val (.int n2), .val (.int (0 : Int32)), .unset, .unset, .unset, .unset, .unset, .unset, .unset, .unset, .unset]) at_23 rfl rfl ?_
    refine iloadN (pc' := 26) at_25 rfl rfl ?_
    refine iconst (pc' := 27) (v := (2 : Int32)) at_26 rfl rfl ?_
    refine iand (pc' := 28) at_27 rfl ?_
    refine ifc (pc' := 35) (pcF := 31) at_28 (by decide) rfl rfl (fun (q2 : (i3 &&& (2 : Int32)) = (0 : Int32)) => ?_) (fun (q2 : ¬ ((i3 &&& (2 : Int32)) = (0 : Int32))) => ?_)
    · skip
      refine iconst (pc' := 36) (v := (0 : Int32)) at_35 rfl rfl ?_
      refine istore (pc' := 38) (L' := #[.val (.int i0), .val (.int i1), .val (.int i2), .val (.int i3), .val (.int n1), .val (.int n2), .val (.int (0 : Int32)), .val (.int (0 : Int32)), .unset, .unset, .unset, .unset, .unset, .unset, .unset, .unset]) at_36 rfl rfl ?_
      refine iloadN (pc' := 39) at_38 rfl rfl ?_
      refine iconst (pc' := 40) (v := (4 : Int32)) at_39 rfl rfl ?_
      refine iand (pc' := 41) at_40 rfl ?_
      refine ifc (pc' := 48) (pcF := 44) at_41 (by decide) rfl rfl (fun (q3 : (i3 &&& (4 : Int32)) = (0 : Int32)) => ?_) (fun (q3 : ¬ ((i3 &&& (4 : Int32)) = (0 : Int32))) => ?_)
      · skip
        refine iloadN (pc' := 49) at_48 rfl rfl ?_
        refine istore (pc' := 51) (L' := #[.val (.int i0), .val (.int i1), .val (.int i2), .val (.int i3), .val (.int n1), .val (.int n2), .val (.int (0 : Int32)), .val (.int (0 : Int32)), .val (.int i1), .unset, .unset, .unset, .unset, .unset, .unset, .unset]) at_49 rfl rfl ?_
        exact J51 _ _ _ (by decide) (by decide)
      · skip
        refine iloadN (pc' := 45) at_44 rfl rfl ?_
        refine goto (pc' := 49) at_45 (by decide) rfl ?_
        refine istore (pc' := 51) (L' := #[.val (.int i0), .val (.int i1), .val (.int i2), .val (.int i3), .val (.int n1), .val (.int n2), .val (.int (0 : Int32)), .val (.int (0 : Int32)), .val (.int i0), .unset, .unset, .unset, .unset, .unset, .unset, .unset]) at_49 rfl rfl ?_
        exact J51 _ _ _ (by decide) (by decide)
    · skip
      refine iconst (pc' := 32) (v := (1 : Int32)) at_31 rfl rfl ?_
      refine goto (pc' := 36) at_32 (by decide) rfl ?_
      refine istore (pc' := 38) (L' := #[.val (.int i0), .val (.int i1), .val (.int i2), .val (.int i3), .val (.int n1), .val (.int n2), .val (.int (0 : Int32)), .val (.int (1 : Int32)), .unset, .unset, .unset, .unset, .unset, .unset, .unset, .unset]) at_36 rfl rfl ?_
      refine iloadN (pc' := 39) at_38 rfl rfl ?_
      refine iconst (pc' := 40) (v := (4 : Int32)) at_39 rfl rfl ?_
      refine iand (pc' := 41) at_40 rfl ?_
      refine ifc (pc' := 48) (pcF := 44) at_41 (by decide) rfl rfl (fun (q3 : (i3 &&& (4 : Int32)) = (0 : Int32)) => ?_) (fun (q3 : ¬ ((i3 &&& (4 : Int32)) = (0 : Int32))) => ?_)
      · skip
        refine iloadN (pc' := 49) at_48 rfl rfl ?_
        refine istore (pc' := 51) (L' := #[.val (.int i0), .val (.int i1), .val (.int i2), .val (.int i3), .val (.int n1), .val (.int n2), .val (.int (0 : Int32)), .val (.int (1 : Int32)), .val (.int i1), .unset, .unset, .unset, .unset, .unset, .unset, .unset]) at_49 rfl rfl ?_
        exact J51 _ _ _ (by decide) (by decide)
      · skip
        refine iloadN (pc' := 45) at_44 rfl rfl ?_
        refine goto (pc' := 49) at_45 (by decide) rfl ?_
        refine istore (pc' := 51) (L' := #[.val (.int i0), .val (.int i1), .val (.int i2), .val (.int i3), .val (.int n1), .val (.int n2), .val (.int (0 : Int32)), .val (.int (1 : Int32)), .val (.int i0), .unset, .unset, .unset, .unset, .unset, .unset, .unset]) at_49 rfl rfl ?_
        exact J51 _ _ _ (by decide) (by decide)
  · skip
    refine iconst (pc' := 19) (v := (1 : Int32)) at_18 rfl rfl ?_
    refine goto (pc' := 23) at_19 (by decide) rfl ?_
    refine istore (pc' := 25) (L' := #[.val (.int i0), .val (.int i1), .val (.int i2), .val (.int i3), .val (.int n1), .val (.int n2), .val (.int (1 : Int32)), .unset, .unset, .unset, .unset, .unset, .unset, .unset, .unset, .unset]) at_23 rfl rfl ?_
    refine iloadN (pc' := 26) at_25 rfl rfl ?_
    refine iconst (pc' := 27) (v := (2 : Int32)) at_26 rfl rfl ?_
    refine iand (pc' := 28) at_27 rfl ?_
    refine ifc (pc' := 35) (pcF := 31) at_28 (by decide) rfl rfl (fun (q2 : (i3 &&& (2 : Int32)) = (0 : Int32)) => ?_) (fun (q2 : ¬ ((i3 &&& (2 : Int32)) = (0 : Int32))) => ?_)
    · skip
      refine iconst (pc' := 36) (v := (0 : Int32)) at_35 rfl rfl ?_
      refine istore (pc' := 38) (L' := #[.val (.int i0), .val (.int i1), .val (.int i2), .val (.int i3), .val (.int n1), .val (.int n2), .val (.int (1 : Int32)), .val (.int (0 : Int32)), .unset, .unset, .unset, .unset, .unset, .unset, .unset, .unset]) at_36 rfl rfl ?_
      refine iloadN (pc' := 39) at_38 rfl rfl ?_
      refine iconst (pc' := 40) (v := (4 : Int32)) at_39 rfl rfl ?_
      refine iand (pc' := 41) at_40 rfl ?_
      refine ifc (pc' := 48) (pcF := 44) at_41 (by decide) rfl rfl (fun (q3 : (i3 &&& (4 : Int32)) = (0 : Int32)) => ?_) (fun (q3 : ¬ ((i3 &&& (4 : Int32)) = (0 : Int32))) => ?_)
      · skip
        refine iloadN (pc' := 49) at_48 rfl rfl ?_
        refine istore (pc' := 51) (L' := #[.val (.int i0), .val (.int i1), .val (.int i2), .val (.int i3), .val (.int n1), .val (.int n2), .val (.int (1 : Int32)), .val (.int (0 : Int32)), .val (.int i1), .unset, .unset, .unset, .unset, .unset, .unset, .unset]) at_49 rfl rfl ?_
        exact J51 _ _ _ (by decide) (by decide)
      · skip
        refine iloadN (pc' := 45) at_44 rfl rfl ?_
        refine goto (pc' := 49) at_45 (by decide) rfl ?_
        refine istore (pc' := 51) (L' := #[.val (.int i0), .val (.int i1), .val (.int i2), .val (.int i3), .val (.int n1), .val (.int n2), .val (.int (1 : Int32)), .val (.int (0 : Int32)), .val (.int i0), .unset, .unset, .unset, .unset, .unset, .unset, .unset]) at_49 rfl rfl ?_
        exact J51 _ _ _ (by decide) (by decide)
    · skip
      refine iconst (pc' := 32) (v := (1 : Int32)) at_31 rfl rfl ?_
      refine goto (pc' := 36) at_32 (by decide) rfl ?_
      refine istore (pc' := 38) (L' := #[.val (.int i0), .val (.int i1), .val (.int i2), .val (.int i3), .val (.int n1), .val (.int n2), .val (.int (1 : Int32)), .val (.int (1 : Int32)), .unset, .unset, .unset, .unset, .unset, .unset, .unset, .unset]) at_36 rfl rfl ?_
      refine iloadN (pc' := 39) at_38 rfl rfl ?_
      refine iconst (pc' := 40) (v := (4 : Int32)) at_39 rfl rfl ?_
      refine iand (pc' := 41) at_40 rfl ?_
      refine ifc (pc' := 48) (pcF := 44) at_41 (by decide) rfl rfl (fun (q3 : (i3 &&& (4 : Int32)) = (0 : Int32)) => ?_) (fun (q3 : ¬ ((i3 &&& (4 : Int32)) = (0 : Int32))) => ?_)
      · skip
        refine iloadN (pc' := 49) at_48 rfl rfl ?_
        refine istore (pc' := 51) (L' := #[.val (.int i0), .val (.int i1), .val (.int i2), .val (.int i3), .val (.int n1), .val (.int n2), .val (.int (1 : Int32)), .val (.int (1 : Int32)), .val (.int i1), .unset, .unset, .unset, .unset, .unset, .unset, .unset]) at_49 rfl rfl ?_
        exact J51 _ _ _ (by decide) (by decide)
      · skip
        refine iloadN (pc' := 45) at_44 rfl rfl ?_
        refine goto (pc' := 49) at_45 (by decide) rfl ?_
        refine istore (pc' := 51) (L' := #[.val (.int i0), .val (.int i1), .val (.int i2), .val (.int i3), .val (.int n1), .val (.int n2), .val (.int (1 : Int32)), .val (.int (1 : Int32)), .val (.int i0), .unset, .unset, .unset, .unset, .unset, .unset, .unset]) at_49 rfl rfl ?_
        exact J51 _ _ _ (by decide) (by decide)
set_option maxRecDepth 65536 in
set_option maxHeartbeats 40000000 in
theorem comes_1 {Post : Tables → Env → Array Value → State → Outcome → State → Prop} (hpost : ∀ tb e args s v u, (limb_1_1.after args s (.returned v) u = true ∧ limb_1_2.after args s (.returned v) u = true ∧ True) → ReturnedEndW s (.returned v) u (Jvm.fieldLocs frame_1_writes args s ++ Jvm.arrayLocs frame_1_arrays args s ++ Jvm.staticLocs frame_1_statics s) 32 1152 → Post tb e args s (.returned v) u) :
    ArmFor flags0 classFile x code maxLocals ret World_1 tables_1 room_1 Calls_1 rest_1 Pre_1 Post := by
  intro l hfl _ _ p e ha hc hk s m args below hf hA hF happ hP
  obtain ⟨hcalls, hrest, hpre⟩ := hP
  obtain ⟨-, -, -, hnamed, -, -, -, hat⟩ := (Spec.applies_iff hf).mp happ
  obtain ⟨hg, hn⟩ := and_e (Cond.before_iff.mp (show (Jvm.Cond.and given_1 narrow_1).before args s = true from hpre))
  obtain ⟨hcount, hg0⟩ := and_e hg
  obtain ⟨ga0, hg1⟩ := and_e hg0
  obtain ⟨ga1, hg2⟩ := and_e hg1
  obtain ⟨ga2, hg3⟩ := and_e hg2
  have ga3 := hg3
  obtain ⟨w0, w1, w2, w3, rfl⟩ : ∃ w0 w1 w2 w3 : Value, args = #[w0, w1, w2, w3] := by
    have hs : args.size = 4 := by simpa [Cond.value, given_1] using hcount
    obtain ⟨L⟩ := args
    match L, hs with
    | [w0, w1, w2, w3], _ => exact ⟨w0, w1, w2, w3, rfl⟩
  have hw := fun d (hd : d ∈ tables_1) => atoms_spec (ws := Jvm.Cond.code x code maxLocals ret :: tables_1) hat d (List.mem_cons_of_mem _ hd)
  have hfit : Fit s := fun {y c} hc i hi => by
    obtain ⟨ha, rfl⟩ := Array.getElem?_eq_some_iff.mp hc
    have q := List.all_eq_true.mp ((Array.all_eq_true_iff_forall_mem.mp hF) _ (Array.getElem_mem ha)) i (List.mem_range.mpr hi)
    simpa [Array.getElem?_eq_getElem hi] using q
  obtain ⟨hsets, hown0⟩ := atoms_of _ (rest_1_c_eq ▸ (show rest_1_c.before _ s = true from hrest))
  obtain ⟨i0, ei0⟩ := is_v ga0
  obtain rfl : w0 = (.int i0) := Option.some.inj ei0
  obtain ⟨i1, ei1⟩ := is_v ga1
  obtain rfl : w1 = (.int i1) := Option.some.inj ei1
  obtain ⟨i2, ei2⟩ := is_v ga2
  obtain rfl : w2 = (.int i2) := Option.some.inj ei2
  obtain ⟨i3, ei3⟩ := is_v ga3
  obtain rfl : w3 = (.int i3) := Option.some.inj ei3
  obtain ⟨zc, ezc⟩ := is_v (Cond.before_iff.mp (hsets _ (List.mem_of_getElem? (i := 1) rfl)))
  have nzc := not_v (Cond.before_iff.mp (hsets _ (List.mem_of_getElem? (i := 2) rfl)))
  have Szc : Sta s s.heap "java/lang/String" "COMPACT_STRINGS" "Z" (.int zc) := Sta.start ezc (Or.inl (hsets _ (List.mem_of_getElem? (i := 0) rfl)))
  obtain ⟨fm, efm, rfm⟩ := isR_v (Cond.before_iff.mp (hsets _ (List.mem_of_getElem? (i := 8) rfl)))
  have Sfm : Sta s s.heap "jdk/internal/util/Preconditions" "SIOOBE_FORMATTER" "Ljava/util/function/BiFunction;" fm := Sta.start efm (Or.inl (hsets _ (List.mem_of_getElem? (i := 7) rfl)))
  have hzc : ¬ (zc = (0 : Int32)) := gotF (Cond.eq_ints ezc (Term.int_eval (0))) nzc
  have hB : Sets s := ⟨zc, fm, Szc, hzc, Sfm, rfm⟩
  have hEL : EW s _ consts_1 := EW.cons (hw _ (List.mem_of_getElem? (i := 34) rfl)) (by simp) EW.nil
  have hCHv : CHv s consts_1 s.vm s.heap := CHv.start hEL (fun p hp => hcalls.1 p hp) (hsets _ (List.mem_of_getElem? (i := 2) rfl)) (hw _ (List.mem_of_getElem? (i := 23) rfl)) (hw _ (List.mem_of_getElem? (i := 5) rfl))
  obtain ⟨n, o, h1, h2, h3, v, L, rfl, ⟨rfl, N, -⟩, hCH, hE, hWm⟩ := law_met l s _ hw hEL s.heap.size i0 i1 i2 i3 s.heap hB p e ha hc hk s m _ below hf ((Spec.applies_iff_loose hf).mp happ).1 ⟨rfl, State.Warmed39.refl s, rfl, hCHv, Old.start s, fun x q => nomatch q⟩ trivial
  refine ⟨n, _, h1, h2, h3, hpost _ _ _ _ _ _ ⟨Cond.after_iff.mpr rfl, Cond.after_iff.mpr (eq_i res_at (Term.int_eval (1)) rfl), trivial⟩ ⟨hE.1, hE.2.1, hE.2.2.1, (hE.2.2.2.sift fun y hy => Or.inr (N y hy)).mono (by decide) (by decide)⟩⟩
theorem main_1_1 : Claimed_1_1 := comes_1 fun _ _ _ _ _ _ h hF => ⟨h.1, hF⟩
theorem main_1_2 : Claimed_1_2 := comes_1 fun _ _ _ _ _ _ h hF => ⟨h.2.1, hF⟩
end Jvm.Pilot.@@N@@
namespace Jvm.Pilot.@@N@@
open Jvm Jvm.ClassFile Sem Op Lib Jvm.Free Jvm.Stand Jvm.Pilot.@@N@@.Jvm.D
/-! MADE BY PROGRAM (witnessworld.py) out of the Statement's table words and the real class files: 21 classes; the members and pool entries that the words name. The judged class is class 1, her method 1. -/
namespace start1
open Jvm.ClassFile
def u (s : String) : CpInfo := .utf8 (stringToUtf16 s)
/-- a pool by its gaps: so many unusable entries, then the entry; so many at the end -/
def gap : Nat → List CpInfo → List CpInfo
  | 0, r => r
  | n + 1, r => .unusable :: gap n r
def poolList (es : List (Nat × CpInfo)) (last : Nat) : List CpInfo := es.foldr (fun e r => gap e.1 (e.2 :: r)) (gap last [])
def pool (es : List (Nat × CpInfo)) (last : Nat) : Array CpInfo := ⟨poolList es last⟩
def fileOf (pool : Array CpInfo) (this : Nat) (attrs : Array Attribute := #[]) (ms : Array MethodInfo := #[]) (fl : Nat := 33) (sup : Nat := 0) (ifs : Array Nat := #[]) (fds : Array FieldInfo := #[]) : ClassFile where
  minorVersion := 0
  majorVersion := 65
  constantPool := pool
  accessFlags := fl
  thisClass := this
  superClass := sup
  interfaces := ifs
  fields := fds
  methods := ms
  attributes := attrs
def plain (name : String) (sup : Option ClassId) : Class where
  name := name
  kind := .ordinary
  loader := none
  accessFlags := 33
  super := sup
  interfaces := #[]
  cf := none
  fields := #[]
  methods := #[]
  instanceTypes := #[]
  staticTypes := #[]
  resolved := #[]
  callSites := []
  init := .initialized
  statics := none
  mirror := none

def pool0 : Array CpInfo := pool [(5, u "<init>"), (0, u "()V"), (1, .class_ 10), (1, u "java/lang/Object")] 113

def k0c0 : Code := { maxStack := 0, maxLocals := 1, code := object_method_1_code, exceptionTable := #[], attributes := #[] }
def k0m0 : Method := { name := "<init>", desc := "()V", sig := { parameters := [], returnType := none }, accessFlags := 1, code := some k0c0 }
/-- java/lang/Object -/
def k0 : Class := { plain "java/lang/Object" none with
  accessFlags := 33
  interfaces := #[]
  cf := some (fileOf pool0 8 #[] #[{ accessFlags := 1, nameIndex := 5, descriptorIndex := 6, attributes := #[] }] 33 0 #[] #[])
  fields := #[]
  methods := #[k0m0]
  instanceTypes := #[]
  staticTypes := #[]
  resolved := Array.replicate 124 none
  statics := none }

def pool1 : Array CpInfo := pool [(2, .class_ 4), (1, u "java/lang/Object"), (0, u "<init>"), (0, u "()V"), (0, .methodref 8 9), (0, .class_ 10), (0, .nameAndType 11 12), (0, u "com/example/berth/berth/engine/GroupingEqualsPinLaw"), (0, u "name"), (0, u "(II)Ljava/lang/String;"), (0, .class_ 14), (0, u "com/example/berth/berth/engine/Grouping"), (0, .methodref 13 16), (0, .nameAndType 5 17), (0, u "(Ljava/lang/String;Z)V"), (0, .methodref 13 19), (0, .nameAndType 20 21), (0, u "equals"), (0, u "(Ljava/lang/Object;)Z"), (0, .class_ 23), (0, u "java/lang/String"), (0, .methodref 22 25), (0, .nameAndType 5 26), (0, u "([C)V"), (2, u "law"), (0, u "(IIII)Z")] 3

def k1m0 : Method := { name := "<init>", desc := "()V", sig := { parameters := [], returnType := none }, accessFlags := 1, code := none }
def k1c1 : Code := { maxStack := 4, maxLocals := 16, code := code, exceptionTable := #[], attributes := #[] }
def k1m1 : Method := { name := "law", desc := "(IIII)Z", sig := { parameters := [.int, .int, .int, .int], returnType := some .boolean }, accessFlags := 9, code := some k1c1 }
def k1c2 : Code := { maxStack := 6, maxLocals := 5, code := method_3_code, exceptionTable := #[], attributes := #[] }
def k1m2 : Method := { name := "name", desc := "(II)Ljava/lang/String;", sig := { parameters := [.int, .int], returnType := some (.object "java/lang/String") }, accessFlags := 10, code := some k1c2 }
/-- com/example/berth/berth/engine/GroupingEqualsPinLaw -/
def k1 : Class := { plain "com/example/berth/berth/engine/GroupingEqualsPinLaw" (some 0) with
  accessFlags := 49
  interfaces := #[]
  cf := some (fileOf pool1 8 #[] #[{ accessFlags := 1, nameIndex := 5, descriptorIndex := 6, attributes := #[] }, { accessFlags := 9, nameIndex := 29, descriptorIndex := 30, attributes := #[] }, { accessFlags := 10, nameIndex := 11, descriptorIndex := 12, attributes := #[] }] 49 2 #[] #[])
  fields := #[]
  methods := #[k1m0, k1m1, k1m2]
  instanceTypes := #[]
  staticTypes := #[]
  resolved := Array.replicate 34 none
  statics := none }

def pool2 : Array CpInfo := pool [(1, .class_ 2), (0, u "java/io/Serializable"), (0, .class_ 4), (0, u "java/lang/Object")] 2

/-- java/io/Serializable -/
def k2 : Class := { plain "java/io/Serializable" (some 0) with
  accessFlags := 1537
  interfaces := #[]
  cf := some (fileOf pool2 1 #[] #[] 1537 3 #[] #[])
  fields := #[]
  methods := #[]
  instanceTypes := #[]
  staticTypes := #[]
  resolved := Array.replicate 7 none
  statics := none }

def pool3 : Array CpInfo := pool [(1, .class_ 2), (0, u "java/lang/Comparable"), (0, .class_ 4), (0, u "java/lang/Object")] 7

/-- java/lang/Comparable -/
def k3 : Class := { plain "java/lang/Comparable" (some 0) with
  accessFlags := 1537
  interfaces := #[]
  cf := some (fileOf pool3 1 #[] #[] 1537 3 #[] #[])
  fields := #[]
  methods := #[]
  instanceTypes := #[]
  staticTypes := #[]
  resolved := Array.replicate 12 none
  statics := none }

def pool4 : Array CpInfo := pool [(2, .class_ 4), (1, u "java/lang/CharSequence"), (42, .class_ 48), (0, u "java/lang/CharSequence$1CodePointIterator"), (10, .class_ 60), (0, u "java/lang/CharSequence$1CharIterator"), (5, .class_ 67), (0, u "java/lang/Object")] 63

/-- java/lang/CharSequence -/
def k4 : Class := { plain "java/lang/CharSequence" (some 0) with
  accessFlags := 1537
  interfaces := #[]
  cf := some (fileOf pool4 2 #[.nestMembers #[47, 59]] #[] 1537 66 #[] #[])
  fields := #[]
  methods := #[]
  instanceTypes := #[]
  staticTypes := #[]
  resolved := Array.replicate 131 none
  statics := none }

def pool5 : Array CpInfo := pool [(1, .class_ 2), (0, u "java/lang/constant/Constable"), (0, .class_ 4), (0, u "java/lang/Object")] 6

/-- java/lang/constant/Constable -/
def k5 : Class := { plain "java/lang/constant/Constable" (some 0) with
  accessFlags := 1537
  interfaces := #[]
  cf := some (fileOf pool5 1 #[] #[] 1537 3 #[] #[])
  fields := #[]
  methods := #[]
  instanceTypes := #[]
  staticTypes := #[]
  resolved := Array.replicate 11 none
  statics := none }

def pool6 : Array CpInfo := pool [(1, .class_ 2), (0, u "java/lang/constant/ConstantDesc"), (0, .class_ 4), (0, u "java/lang/Object")] 32

/-- java/lang/constant/ConstantDesc -/
def k6 : Class := { plain "java/lang/constant/ConstantDesc" (some 0) with
  accessFlags := 1537
  interfaces := #[]
  cf := some (fileOf pool6 1 #[] #[] 1537 3 #[] #[])
  fields := #[]
  methods := #[]
  instanceTypes := #[]
  staticTypes := #[]
  resolved := Array.replicate 37 none
  statics := none }

def pool7 : Array CpInfo := pool [(1, .methodref 2 3), (0, .class_ 4), (0, .nameAndType 5 6), (0, u "java/lang/Object"), (0, u "<init>"), (0, u "()V"), (0, .string 8), (0, u ""), (0, .fieldref 10 11), (0, .class_ 12), (0, .nameAndType 13 14), (0, u "java/lang/String"), (0, u "value"), (0, u "[B"), (0, .fieldref 10 16), (0, .nameAndType 17 18), (0, u "coder"), (0, u "B"), (2, u "hash"), (0, u "I"), (2, u "hashIsZero"), (0, u "Z"), (0, .methodref 10 28), (0, .nameAndType 5 29), (0, u "([CIILjava/lang/Void;)V"), (8, .fieldref 10 39), (0, .nameAndType 40 26), (0, u "COMPACT_STRINGS"), (1, .class_ 44), (1, u "java/lang/StringUTF16"), (0, u "compress"), (1, .methodref 42 48), (0, .nameAndType 49 50), (0, u "coderFromArrayLen"), (0, u "([BI)B"), (56, .class_ 109), (1, u "java/lang/StringLatin1"), (67, .methodref 42 178), (0, .nameAndType 45 179), (0, u "([CII)[B"), (361, .methodref 107 542), (0, .nameAndType 543 544), (0, u "equals"), (0, u "([B[B)Z"), (28, u "(Ljava/lang/Object;)Z"), (1, .class_ 576), (0, u "java/lang/CharSequence"), (22, u "CASE_INSENSITIVE_ORDER"), (0, u "Ljava/util/Comparator;"), (409, u "([C)V"), (90, u "serialPersistentFields"), (0, u "[Ljava/io/ObjectStreamField;"), (0, .class_ 1104), (0, u "java/lang/String$CaseInsensitiveComparator"), (1, .class_ 1107), (0, u "java/io/Serializable"), (0, .class_ 1109), (0, u "java/lang/Comparable"), (0, .class_ 1111), (0, u "java/lang/constant/Constable"), (0, .class_ 1113), (0, u "java/lang/constant/ConstantDesc"), (2, u "serialVersionUID"), (0, u "J"), (3, u "REPL"), (0, u "C"), (2, u "LATIN1"), (1, u "UTF16")] 323

def k7m0 : Method := { name := "<init>", desc := "()V", sig := { parameters := [], returnType := none }, accessFlags := 1, code := none }
def k7c1 : Code := { maxStack := 5, maxLocals := 2, code := jdk_42_method_3_code, exceptionTable := #[], attributes := #[] }
def k7m1 : Method := { name := "<init>", desc := "([C)V", sig := { parameters := [(.array .char)], returnType := none }, accessFlags := 1, code := some k7c1 }
def k7c2 : Code := { maxStack := 2, maxLocals := 3, code := jdk_42_method_66_code, exceptionTable := #[], attributes := #[] }
def k7m2 : Method := { name := "equals", desc := "(Ljava/lang/Object;)Z", sig := { parameters := [(.object "java/lang/Object")], returnType := some .boolean }, accessFlags := 1, code := some k7c2 }
def k7c3 : Code := { maxStack := 4, maxLocals := 6, code := jdk_42_method_149_code, exceptionTable := #[], attributes := #[] }
def k7m3 : Method := { name := "<init>", desc := "([CIILjava/lang/Void;)V", sig := { parameters := [(.array .char), .int, .int, (.object "java/lang/Void")], returnType := none }, accessFlags := 2, code := some k7c3 }
/-- java/lang/String -/
def k7 : Class := { plain "java/lang/String" (some 0) with
  accessFlags := 49
  interfaces := #[2, 3, 4, 5, 6]
  cf := some (fileOf pool7 10 #[.nestMembers #[1103]] #[{ accessFlags := 1, nameIndex := 5, descriptorIndex := 6, attributes := #[] }, { accessFlags := 1, nameIndex := 5, descriptorIndex := 1010, attributes := #[] }, { accessFlags := 1, nameIndex := 543, descriptorIndex := 573, attributes := #[] }, { accessFlags := 2, nameIndex := 5, descriptorIndex := 29, attributes := #[] }] 49 2 #[1106, 1108, 575, 1110, 1112] #[{ accessFlags := 18, nameIndex := 13, descriptorIndex := 14, attributes := #[] }, { accessFlags := 18, nameIndex := 17, descriptorIndex := 18, attributes := #[] }, { accessFlags := 2, nameIndex := 21, descriptorIndex := 22, attributes := #[] }, { accessFlags := 2, nameIndex := 25, descriptorIndex := 26, attributes := #[] }, { accessFlags := 26, nameIndex := 1116, descriptorIndex := 1117, attributes := #[] }, { accessFlags := 24, nameIndex := 40, descriptorIndex := 26, attributes := #[] }, { accessFlags := 26, nameIndex := 1101, descriptorIndex := 1102, attributes := #[] }, { accessFlags := 26, nameIndex := 1121, descriptorIndex := 1122, attributes := #[] }, { accessFlags := 25, nameIndex := 599, descriptorIndex := 600, attributes := #[] }, { accessFlags := 24, nameIndex := 1125, descriptorIndex := 18, attributes := #[] }, { accessFlags := 24, nameIndex := 1127, descriptorIndex := 18, attributes := #[] }])
  fields := #[{ name := "value", type := (.array .byte), accessFlags := 18, slot := 0, constantValue := 0 }, { name := "coder", type := .byte, accessFlags := 18, slot := 1, constantValue := 0 }, { name := "hash", type := .int, accessFlags := 2, slot := 2, constantValue := 0 }, { name := "hashIsZero", type := .boolean, accessFlags := 2, slot := 3, constantValue := 0 }, { name := "serialVersionUID", type := .long, accessFlags := 26, slot := 0, constantValue := 0 }, { name := "COMPACT_STRINGS", type := .boolean, accessFlags := 24, slot := 1, constantValue := 0 }, { name := "serialPersistentFields", type := (.array (.object "java/io/ObjectStreamField")), accessFlags := 26, slot := 2, constantValue := 0 }, { name := "REPL", type := .char, accessFlags := 26, slot := 3, constantValue := 0 }, { name := "CASE_INSENSITIVE_ORDER", type := (.object "java/util/Comparator"), accessFlags := 25, slot := 4, constantValue := 0 }, { name := "LATIN1", type := .byte, accessFlags := 24, slot := 5, constantValue := 0 }, { name := "UTF16", type := .byte, accessFlags := 24, slot := 6, constantValue := 0 }]
  methods := #[k7m0, k7m1, k7m2, k7m3]
  instanceTypes := #[(.array .byte), .byte, .int, .boolean]
  staticTypes := #[.long, .boolean, (.array (.object "java/io/ObjectStreamField")), .char, (.object "java/util/Comparator"), .byte, .byte]
  resolved := Array.replicate 1451 none
  statics := some 0 }

def pool8 : Array CpInfo := pool [(6, .class_ 8), (1, u "java/lang/Object"), (0, u "<init>"), (0, u "()V"), (1, .class_ 14), (1, u "java/lang/StringUTF16"), (31, u "$assertionsDisabled"), (0, u "Z"), (13, u "HI_BYTE_SHIFT"), (0, u "I"), (2, u "LO_BYTE_SHIFT"), (49, .methodref 12 116), (0, .nameAndType 117 118), (0, u "compress"), (0, u "([CI[BII)I"), (3, u "([CII)[B"), (138, u "coderFromArrayLen"), (0, u "([BI)B"), (106, .class_ 371), (1, u "java/lang/StringUTF16$LinesSpliterator"), (58, u "MAX_LENGTH"), (196, .class_ 628), (0, u "java/lang/StringUTF16$CodePointsSpliterator"), (0, .class_ 630), (0, u "java/lang/StringUTF16$CharsSpliterator")] 4

def k8m0 : Method := { name := "<init>", desc := "()V", sig := { parameters := [], returnType := none }, accessFlags := 0, code := none }
def k8c1 : Code := { maxStack := 2, maxLocals := 2, code := jdk_52_method_15_code, exceptionTable := #[], attributes := #[] }
def k8m1 : Method := { name := "coderFromArrayLen", desc := "([BI)B", sig := { parameters := [(.array .byte), .int], returnType := some .byte }, accessFlags := 8, code := some k8c1 }
def k8c2 : Code := { maxStack := 5, maxLocals := 6, code := jdk_52_method_16_code, exceptionTable := #[], attributes := #[] }
def k8m2 : Method := { name := "compress", desc := "([CII)[B", sig := { parameters := [(.array .char), .int, .int], returnType := some (.array .byte) }, accessFlags := 9, code := some k8c2 }
def k8c3 : Code := { maxStack := 3, maxLocals := 7, code := jdk_52_method_21_code, exceptionTable := #[], attributes := #[] }
def k8m3 : Method := { name := "compress", desc := "([CI[BII)I", sig := { parameters := [(.array .char), .int, (.array .byte), .int, .int], returnType := some .int }, accessFlags := 9, code := some k8c3 }
/-- java/lang/StringUTF16 -/
def k8 : Class := { plain "java/lang/StringUTF16" (some 0) with
  accessFlags := 48
  interfaces := #[]
  cf := some (fileOf pool8 12 #[.nestMembers #[627, 629, 369]] #[{ accessFlags := 0, nameIndex := 9, descriptorIndex := 10, attributes := #[] }, { accessFlags := 8, nameIndex := 261, descriptorIndex := 262, attributes := #[] }, { accessFlags := 9, nameIndex := 117, descriptorIndex := 122, attributes := #[] }, { accessFlags := 9, nameIndex := 117, descriptorIndex := 118, attributes := #[] }] 48 6 #[] #[{ accessFlags := 26, nameIndex := 61, descriptorIndex := 62, attributes := #[] }, { accessFlags := 26, nameIndex := 65, descriptorIndex := 62, attributes := #[] }, { accessFlags := 24, nameIndex := 430, descriptorIndex := 62, attributes := #[] }, { accessFlags := 4120, nameIndex := 46, descriptorIndex := 47, attributes := #[] }])
  fields := #[{ name := "HI_BYTE_SHIFT", type := .int, accessFlags := 26, slot := 0, constantValue := 0 }, { name := "LO_BYTE_SHIFT", type := .int, accessFlags := 26, slot := 1, constantValue := 0 }, { name := "MAX_LENGTH", type := .int, accessFlags := 24, slot := 2, constantValue := 0 }, { name := "$assertionsDisabled", type := .boolean, accessFlags := 4120, slot := 3, constantValue := 0 }]
  methods := #[k8m0, k8m1, k8m2, k8m3]
  instanceTypes := #[]
  staticTypes := #[.int, .int, .int, .boolean]
  resolved := Array.replicate 635 none
  statics := none }

def pool9 : Array CpInfo := pool [(1, .methodref 2 3), (0, .class_ 4), (0, .nameAndType 5 6), (0, u "java/lang/Object"), (0, u "<init>"), (0, u "()V"), (0, .class_ 8), (0, u "java/lang/Record")] 13

def k9c0 : Code := { maxStack := 1, maxLocals := 1, code := jdk_30_method_1_code, exceptionTable := #[], attributes := #[] }
def k9m0 : Method := { name := "<init>", desc := "()V", sig := { parameters := [], returnType := none }, accessFlags := 4, code := some k9c0 }
/-- java/lang/Record -/
def k9 : Class := { plain "java/lang/Record" (some 0) with
  accessFlags := 1057
  interfaces := #[]
  cf := some (fileOf pool9 7 #[] #[{ accessFlags := 4, nameIndex := 5, descriptorIndex := 6, attributes := #[] }] 1057 2 #[] #[])
  fields := #[]
  methods := #[k9m0]
  instanceTypes := #[]
  staticTypes := #[]
  resolved := Array.replicate 22 none
  statics := none }

def pool10 : Array CpInfo := pool [(1, .methodref 2 3), (0, .class_ 4), (0, .nameAndType 5 6), (0, u "java/lang/Record"), (0, u "<init>"), (0, u "()V"), (0, .fieldref 8 9), (0, .class_ 10), (0, .nameAndType 11 12), (0, u "com/example/berth/berth/engine/Grouping"), (0, u "name"), (0, u "Ljava/lang/String;"), (0, .fieldref 8 14), (0, .nameAndType 15 16), (0, u "ofOneHost"), (0, u "Z"), (8, u "(Ljava/lang/String;Z)V"), (2, u "ORDER"), (0, u "Ljava/util/Comparator;"), (6, .methodref 37 38), (0, .class_ 39), (0, .nameAndType 40 41), (0, u "java/lang/String"), (0, u "equals"), (0, u "(Ljava/lang/Object;)Z"), (29, .class_ 72), (0, u "java/lang/Comparable")] 51

def k10c0 : Code := { maxStack := 2, maxLocals := 3, code := prog_32_method_1_code, exceptionTable := #[], attributes := #[] }
def k10m0 : Method := { name := "<init>", desc := "(Ljava/lang/String;Z)V", sig := { parameters := [(.object "java/lang/String"), .boolean], returnType := none }, accessFlags := 0, code := some k10c0 }
def k10c1 : Code := { maxStack := 2, maxLocals := 3, code := prog_32_method_4_code, exceptionTable := #[], attributes := #[] }
def k10m1 : Method := { name := "equals", desc := "(Ljava/lang/Object;)Z", sig := { parameters := [(.object "java/lang/Object")], returnType := some .boolean }, accessFlags := 1, code := some k10c1 }
/-- com/example/berth/berth/engine/Grouping -/
def k10 : Class := { plain "com/example/berth/berth/engine/Grouping" (some 9) with
  accessFlags := 48
  interfaces := #[3]
  cf := some (fileOf pool10 8 #[] #[{ accessFlags := 0, nameIndex := 5, descriptorIndex := 25, attributes := #[] }, { accessFlags := 1, nameIndex := 40, descriptorIndex := 41, attributes := #[] }] 48 2 #[71] #[{ accessFlags := 18, nameIndex := 11, descriptorIndex := 12, attributes := #[] }, { accessFlags := 18, nameIndex := 15, descriptorIndex := 16, attributes := #[] }, { accessFlags := 26, nameIndex := 28, descriptorIndex := 29, attributes := #[] }])
  fields := #[{ name := "name", type := (.object "java/lang/String"), accessFlags := 18, slot := 0, constantValue := 0 }, { name := "ofOneHost", type := .boolean, accessFlags := 18, slot := 1, constantValue := 0 }, { name := "ORDER", type := (.object "java/util/Comparator"), accessFlags := 26, slot := 0, constantValue := 0 }]
  methods := #[k10m0, k10m1]
  instanceTypes := #[(.object "java/lang/String"), .boolean]
  staticTypes := #[(.object "java/util/Comparator")]
  resolved := Array.replicate 124 none
  statics := none }

def pool11 : Array CpInfo := pool [(4, .class_ 6), (1, u "java/lang/Object"), (0, u "<init>"), (0, u "()V"), (5, .class_ 16), (1, u "java/lang/StringLatin1"), (104, u "$assertionsDisabled"), (0, u "Z"), (98, .class_ 223), (1, u "java/lang/StringLatin1$LinesSpliterator"), (57, u "equals"), (0, u "([B[B)Z"), (107, .class_ 391), (0, u "java/lang/StringLatin1$CharsSpliterator")] 3

def k11m0 : Method := { name := "<init>", desc := "()V", sig := { parameters := [], returnType := none }, accessFlags := 0, code := none }
def k11c1 : Code := { maxStack := 3, maxLocals := 3, code := jdk_43_method_13_code, exceptionTable := #[], attributes := #[] }
def k11m1 : Method := { name := "equals", desc := "([B[B)Z", sig := { parameters := [(.array .byte), (.array .byte)], returnType := some .boolean }, accessFlags := 9, code := some k11c1 }
/-- java/lang/StringLatin1 -/
def k11 : Class := { plain "java/lang/StringLatin1" (some 0) with
  accessFlags := 48
  interfaces := #[]
  cf := some (fileOf pool11 14 #[.nestMembers #[390, 221]] #[{ accessFlags := 0, nameIndex := 7, descriptorIndex := 8, attributes := #[] }, { accessFlags := 9, nameIndex := 281, descriptorIndex := 282, attributes := #[] }] 48 4 #[] #[{ accessFlags := 4120, nameIndex := 121, descriptorIndex := 122, attributes := #[] }])
  fields := #[{ name := "$assertionsDisabled", type := .boolean, accessFlags := 4120, slot := 0, constantValue := 0 }]
  methods := #[k11m0, k11m1]
  instanceTypes := #[]
  staticTypes := #[.boolean]
  resolved := Array.replicate 395 none
  statics := none }

def pool12 : Array CpInfo := pool [(2, .class_ 4), (1, u "java/lang/Object"), (0, u "<init>"), (0, u "()V"), (17, .class_ 26), (1, u "jdk/internal/util/Preconditions"), (28, .class_ 56), (0, u "jdk/internal/util/Preconditions$4"), (57, .class_ 115), (0, u "jdk/internal/util/Preconditions$1"), (7, u "SIOOBE_FORMATTER"), (0, u "Ljava/util/function/BiFunction;"), (0, .class_ 126), (0, u "jdk/internal/util/Preconditions$2"), (3, u "AIOOBE_FORMATTER"), (0, .class_ 132), (0, u "jdk/internal/util/Preconditions$3"), (3, u "IOOBE_FORMATTER")] 57

def k12m0 : Method := { name := "<init>", desc := "()V", sig := { parameters := [], returnType := none }, accessFlags := 1, code := none }
/-- jdk/internal/util/Preconditions -/
def k12 : Class := { plain "jdk/internal/util/Preconditions" (some 0) with
  accessFlags := 33
  interfaces := #[]
  cf := some (fileOf pool12 24 #[.nestMembers #[55, 131, 125, 114]] #[{ accessFlags := 1, nameIndex := 5, descriptorIndex := 6, attributes := #[] }] 33 2 #[] #[{ accessFlags := 25, nameIndex := 123, descriptorIndex := 124, attributes := #[] }, { accessFlags := 25, nameIndex := 130, descriptorIndex := 124, attributes := #[] }, { accessFlags := 25, nameIndex := 136, descriptorIndex := 124, attributes := #[] }])
  fields := #[{ name := "SIOOBE_FORMATTER", type := (.object "java/util/function/BiFunction"), accessFlags := 25, slot := 0, constantValue := 0 }, { name := "AIOOBE_FORMATTER", type := (.object "java/util/function/BiFunction"), accessFlags := 25, slot := 1, constantValue := 0 }, { name := "IOOBE_FORMATTER", type := (.object "java/util/function/BiFunction"), accessFlags := 25, slot := 2, constantValue := 0 }]
  methods := #[k12m0]
  instanceTypes := #[]
  staticTypes := #[(.object "java/util/function/BiFunction"), (.object "java/util/function/BiFunction"), (.object "java/util/function/BiFunction")]
  resolved := Array.replicate 194 none
  statics := some 1 }

def pool13 : Array CpInfo := pool [(9, u "<init>"), (6, .class_ 18), (1, u "java/lang/Object"), (0, u "()V"), (1, .class_ 23), (1, u "jdk/internal/util/ArraysSupport"), (0, u "LOG2_ARRAY_LONG_INDEX_SCALE"), (0, u "I"), (2, u "U"), (0, u "Ljdk/internal/misc/Unsafe;"), (8, u "BIG_ENDIAN"), (0, u "Z"), (8, u "LOG2_BYTE_BIT_SIZE"), (4, u "LOG2_ARRAY_INT_INDEX_SCALE"), (54, u "JLA"), (0, u "Ljdk/internal/access/JavaLangAccess;"), (11, u "LOG2_ARRAY_BOOLEAN_INDEX_SCALE"), (9, u "LOG2_ARRAY_BYTE_INDEX_SCALE"), (5, u "LOG2_ARRAY_CHAR_INDEX_SCALE"), (5, u "LOG2_ARRAY_SHORT_INDEX_SCALE"), (18, u "LOG2_ARRAY_FLOAT_INDEX_SCALE"), (24, u "LOG2_ARRAY_DOUBLE_INDEX_SCALE"), (89, u "T_BOOLEAN"), (2, u "T_CHAR"), (1, u "T_FLOAT"), (1, u "T_DOUBLE"), (1, u "T_BYTE"), (1, u "T_SHORT"), (1, u "T_INT"), (1, u "T_LONG"), (1, u "SOFT_MAX_ARRAY_LENGTH")] 83

def k13m0 : Method := { name := "<init>", desc := "()V", sig := { parameters := [], returnType := none }, accessFlags := 2, code := none }
/-- jdk/internal/util/ArraysSupport -/
def k13 : Class := { plain "jdk/internal/util/ArraysSupport" (some 0) with
  accessFlags := 33
  interfaces := #[]
  cf := some (fileOf pool13 21 #[] #[{ accessFlags := 2, nameIndex := 9, descriptorIndex := 19, attributes := #[] }] 33 16 #[] #[{ accessFlags := 24, nameIndex := 28, descriptorIndex := 29, attributes := #[] }, { accessFlags := 26, nameIndex := 38, descriptorIndex := 39, attributes := #[] }, { accessFlags := 25, nameIndex := 121, descriptorIndex := 25, attributes := #[] }, { accessFlags := 25, nameIndex := 131, descriptorIndex := 25, attributes := #[] }, { accessFlags := 25, nameIndex := 137, descriptorIndex := 25, attributes := #[] }, { accessFlags := 25, nameIndex := 143, descriptorIndex := 25, attributes := #[] }, { accessFlags := 25, nameIndex := 53, descriptorIndex := 25, attributes := #[] }, { accessFlags := 25, nameIndex := 24, descriptorIndex := 25, attributes := #[] }, { accessFlags := 25, nameIndex := 162, descriptorIndex := 25, attributes := #[] }, { accessFlags := 25, nameIndex := 187, descriptorIndex := 25, attributes := #[] }, { accessFlags := 26, nameIndex := 48, descriptorIndex := 25, attributes := #[] }, { accessFlags := 25, nameIndex := 277, descriptorIndex := 25, attributes := #[] }, { accessFlags := 25, nameIndex := 280, descriptorIndex := 25, attributes := #[] }, { accessFlags := 25, nameIndex := 282, descriptorIndex := 25, attributes := #[] }, { accessFlags := 25, nameIndex := 284, descriptorIndex := 25, attributes := #[] }, { accessFlags := 25, nameIndex := 286, descriptorIndex := 25, attributes := #[] }, { accessFlags := 25, nameIndex := 288, descriptorIndex := 25, attributes := #[] }, { accessFlags := 25, nameIndex := 290, descriptorIndex := 25, attributes := #[] }, { accessFlags := 25, nameIndex := 292, descriptorIndex := 25, attributes := #[] }, { accessFlags := 26, nameIndex := 108, descriptorIndex := 109, attributes := #[] }, { accessFlags := 25, nameIndex := 294, descriptorIndex := 25, attributes := #[] }])
  fields := #[{ name := "U", type := (.object "jdk/internal/misc/Unsafe"), accessFlags := 24, slot := 0, constantValue := 0 }, { name := "BIG_ENDIAN", type := .boolean, accessFlags := 26, slot := 1, constantValue := 0 }, { name := "LOG2_ARRAY_BOOLEAN_INDEX_SCALE", type := .int, accessFlags := 25, slot := 2, constantValue := 0 }, { name := "LOG2_ARRAY_BYTE_INDEX_SCALE", type := .int, accessFlags := 25, slot := 3, constantValue := 0 }, { name := "LOG2_ARRAY_CHAR_INDEX_SCALE", type := .int, accessFlags := 25, slot := 4, constantValue := 0 }, { name := "LOG2_ARRAY_SHORT_INDEX_SCALE", type := .int, accessFlags := 25, slot := 5, constantValue := 0 }, { name := "LOG2_ARRAY_INT_INDEX_SCALE", type := .int, accessFlags := 25, slot := 6, constantValue := 0 }, { name := "LOG2_ARRAY_LONG_INDEX_SCALE", type := .int, accessFlags := 25, slot := 7, constantValue := 0 }, { name := "LOG2_ARRAY_FLOAT_INDEX_SCALE", type := .int, accessFlags := 25, slot := 8, constantValue := 0 }, { name := "LOG2_ARRAY_DOUBLE_INDEX_SCALE", type := .int, accessFlags := 25, slot := 9, constantValue := 0 }, { name := "LOG2_BYTE_BIT_SIZE", type := .int, accessFlags := 26, slot := 10, constantValue := 0 }, { name := "T_BOOLEAN", type := .int, accessFlags := 25, slot := 11, constantValue := 0 }, { name := "T_CHAR", type := .int, accessFlags := 25, slot := 12, constantValue := 0 }, { name := "T_FLOAT", type := .int, accessFlags := 25, slot := 13, constantValue := 0 }, { name := "T_DOUBLE", type := .int, accessFlags := 25, slot := 14, constantValue := 0 }, { name := "T_BYTE", type := .int, accessFlags := 25, slot := 15, constantValue := 0 }, { name := "T_SHORT", type := .int, accessFlags := 25, slot := 16, constantValue := 0 }, { name := "T_INT", type := .int, accessFlags := 25, slot := 17, constantValue := 0 }, { name := "T_LONG", type := .int, accessFlags := 25, slot := 18, constantValue := 0 }, { name := "JLA", type := (.object "jdk/internal/access/JavaLangAccess"), accessFlags := 26, slot := 19, constantValue := 0 }, { name := "SOFT_MAX_ARRAY_LENGTH", type := .int, accessFlags := 25, slot := 20, constantValue := 0 }]
  methods := #[k13m0]
  instanceTypes := #[]
  staticTypes := #[(.object "jdk/internal/misc/Unsafe"), .boolean, .int, .int, .int, .int, .int, .int, .int, .int, .int, .int, .int, .int, .int, .int, .int, .int, .int, (.object "jdk/internal/access/JavaLangAccess"), .int]
  resolved := Array.replicate 378 none
  statics := none }

def pool14 : Array CpInfo := pool [(1, u "java/lang/Cloneable"), (0, .class_ 1), (0, u "java/lang/Object"), (0, .class_ 3)] 3

/-- java/lang/Cloneable -/
def k14 : Class := { plain "java/lang/Cloneable" (some 0) with
  accessFlags := 1537
  interfaces := #[]
  cf := some (fileOf pool14 2 #[] #[] 1537 4 #[] #[])
  fields := #[]
  methods := #[]
  instanceTypes := #[]
  staticTypes := #[]
  resolved := Array.replicate 8 none
  statics := none }

/-- the primitive byte -/
def k15 : Class := { plain "byte" none with kind := .primitive 'B', accessFlags := 0x411 }
/-- [B -/
def k16 : Class := { plain "[B" (some 0) with kind := .array 15 .byte, interfaces := #[14, 2], accessFlags := 1041 }

/-- the primitive char -/
def k17 : Class := { plain "char" none with kind := .primitive 'C', accessFlags := 0x411 }
/-- [C -/
def k18 : Class := { plain "[C" (some 0) with kind := .array 17 .char, interfaces := #[14, 2], accessFlags := 1041 }

/-- the primitive int -/
def k19 : Class := { plain "int" none with kind := .primitive 'I', accessFlags := 0x411 }
/-- [I -/
def k20 : Class := { plain "[I" (some 0) with kind := .array 19 .int, interfaces := #[14, 2], accessFlags := 1041 }

def heap : Heap := #[{ cls := 7, slots := #[.long 0, .int 1, .null, .int 0, .null, .int 0, .int 0], vm := .statics 7 },
  { cls := 12, slots := #[.null, .null, .null], vm := .statics 12 }]
def classes : Array Class := #[k0, k1, k2, k3, k4, k5, k6, k7, k8, k9, k10, k11, k12, k13, k14, k15, k16, k17, k18, k19, k20]
def interned : List (Array UInt16 × Addr) := []
def slotsUsed : Nat := 10
def theMethod : MethodId := ⟨1, 1⟩
def args0 : Array Value := #[.int 5, .int 6, .int 7, .int 8]
def aboutOver (below : List Frame) : State where
  vm := { classes := classes, interned := interned.toArray }
  heap := heap
  slotsUsed := slotsUsed
  threads := #[{ frames := .invoking theMethod args0 :: below }]
def below0 : List Frame := [.native { method := ⟨0, 0⟩, args := #[] }]
def about1 : State := aboutOver below0
def p0 : Program := .bare "" "" ""
def e0 : Env := launch0.env 0 0 0
theorem w_frames : about1.frames = Frame.invoking theMethod args0 :: below0 := rfl
set_option maxRecDepth 65536 in
theorem w_args : argsFit about1.vm theMethod args0 = true := by decide +kernel
set_option maxRecDepth 65536 in
theorem w_heap : heapFits about1 = true := by decide +kernel
set_option maxRecDepth 65536 in
theorem w_runnable : about1.curStatus? = some .runnable := by decide +kernel
set_option maxRecDepth 65536 in
theorem w_alone : about1.alone = true := by decide +kernel
set_option maxRecDepth 65536 in
theorem w_named : about1.methodNamed? x = some theMethod := by decide +kernel
set_option maxRecDepth 65536 in
theorem w_hears : about1.hears theMethod below0 = true := by decide +kernel
set_option maxRecDepth 65536 in
theorem w_ripe : about1.ripe theMethod args0 below0 = true := by decide +kernel
theorem w_running : about1.status = .running := rfl
set_option maxRecDepth 65536 in
theorem w_room : about1.hasRoom e0.platform room_1 = true :=
  launch0.hasRoom_least _ room_1 (by decide +kernel) (by decide +kernel) (by decide +kernel) (by decide +kernel) (by decide +kernel) (by decide +kernel)
theorem allAtoms_all (ts : List Jvm.Cond) (a : Array Jvm.Value) (st : Jvm.State) : (allAtoms ts).before a st = ts.all (fun c => c.before a st) := by
  induction ts with
  | nil => rfl
  | cons c t ih =>
    show (Jvm.Cond.and c (allAtoms t)).before a st = _
    rw [Jvm.Cond.before_and, ih, List.all_cons]
def words1 : List Jvm.Cond := Jvm.Cond.code x code maxLocals ret :: tables_1
/-- a 'code' word, met by the world's own term for the bytes: nothing is compared byte by byte -/
theorem code_word {y : MethodName} {bytes : ByteArray} {mx : Nat} {rt : Option FieldType} {a : Array Value} {s : State} {m : MethodId} {meth : Method} {c : Code} (h1 : s.methodNamed? y = some m) (h2 : s.vm.method? m = some meth) (h3 : meth.code = some c) (h4 : c.code = bytes)
    (h5 : (c.maxLocals == mx && c.exceptionTable.isEmpty && decide (c.maxStack ≤ mostOperands) && decide (meth.sig.returnType = rt) && !meth.locks && decide (parseMethodDescriptor y.desc = some meth.sig)) = true) : (Jvm.Cond.code y bytes mx rt).before a s = true := by
  simp only [Bool.and_eq_true, beq_iff_eq, Bool.not_eq_true', decide_eq_true_eq] at h5
  obtain ⟨⟨⟨⟨⟨g1, g2⟩, g3⟩, g4⟩, g5⟩, g6⟩ := h5
  simp [Cond.before, Cond.holds, Cond.value, h1, h2, h3, h4, g1, g2, g3, g4, g5, g6]
def isCode : Jvm.Cond → Bool
  | .code _ _ _ _ => true
  | _ => false
theorem all_split {L : List Jvm.Cond} {P : Jvm.Cond → Bool} (h1 : L.all (fun c => isCode c || P c) = true) (h2 : ∀ c ∈ L.filter isCode, P c = true) : L.all P = true := by
  refine List.all_eq_true.mpr fun c hc => ?_
  have h := List.all_eq_true.mp h1 c hc
  rcases Bool.eq_false_or_eq_true (isCode c) with hi | hi
  · exact h2 c (List.mem_filter.mpr ⟨hc, hi⟩)
  · simpa [hi] using h
set_option maxRecDepth 65536 in
theorem w_c0 : (Jvm.Cond.code x code maxLocals ret).before args0 about1 = true := code_word (m := ⟨1, 1⟩) (meth := k1m1) (c := k1c1) (by decide +kernel) rfl rfl rfl (by decide +kernel)
set_option maxRecDepth 65536 in
theorem w_c1 : (Jvm.Cond.code ({ cls := "com/example/berth/berth/engine/GroupingEqualsPinLaw", name := "name", desc := "(II)Ljava/lang/String;" } : Jvm.MethodName) method_3_code (5 : Nat) (Option.some (Jvm.ClassFile.FieldType.object "java/lang/String"))).before args0 about1 = true := code_word (m := ⟨1, 2⟩) (meth := k1m2) (c := k1c2) (by decide +kernel) rfl rfl rfl (by decide +kernel)
set_option maxRecDepth 65536 in
theorem w_c2 : (Jvm.Cond.code ({ cls := "java/lang/String", name := "<init>", desc := "([C)V" } : Jvm.MethodName) jdk_42_method_3_code (2 : Nat) (Option.none : Option Jvm.ClassFile.FieldType)).before args0 about1 = true := code_word (m := ⟨7, 1⟩) (meth := k7m1) (c := k7c1) (by decide +kernel) rfl rfl rfl (by decide +kernel)
set_option maxRecDepth 65536 in
theorem w_c3 : (Jvm.Cond.code ({ cls := "java/lang/String", name := "<init>", desc := "([CIILjava/lang/Void;)V" } : Jvm.MethodName) jdk_42_method_149_code (6 : Nat) (Option.none : Option Jvm.ClassFile.FieldType)).before args0 about1 = true := code_word (m := ⟨7, 3⟩) (meth := k7m3) (c := k7c3) (by decide +kernel) rfl rfl rfl (by decide +kernel)
set_option maxRecDepth 65536 in
theorem w_c4 : (Jvm.Cond.code ({ cls := "java/lang/Object", name := "<init>", desc := "()V" } : Jvm.MethodName) object_method_1_code (1 : Nat) (Option.none : Option Jvm.ClassFile.FieldType)).before args0 about1 = true := code_word (m := ⟨0, 0⟩) (meth := k0m0) (c := k0c0) (by decide +kernel) rfl rfl rfl (by decide +kernel)
set_option maxRecDepth 65536 in
theorem w_c5 : (Jvm.Cond.code ({ cls := "java/lang/StringUTF16", name := "compress", desc := "([CII)[B" } : Jvm.MethodName) jdk_52_method_16_code (6 : Nat) (Option.some (Jvm.ClassFile.FieldType.array Jvm.ClassFile.FieldType.byte))).before args0 about1 = true := code_word (m := ⟨8, 2⟩) (meth := k8m2) (c := k8c2) (by decide +kernel) rfl rfl rfl (by decide +kernel)
set_option maxRecDepth 65536 in
theorem w_c6 : (Jvm.Cond.code ({ cls := "java/lang/StringUTF16", name := "compress", desc := "([CI[BII)I" } : Jvm.MethodName) jdk_52_method_21_code (7 : Nat) (Option.some Jvm.ClassFile.FieldType.int)).before args0 about1 = true := code_word (m := ⟨8, 3⟩) (meth := k8m3) (c := k8c3) (by decide +kernel) rfl rfl rfl (by decide +kernel)
set_option maxRecDepth 65536 in
theorem w_c7 : (Jvm.Cond.code ({ cls := "java/lang/StringUTF16", name := "coderFromArrayLen", desc := "([BI)B" } : Jvm.MethodName) jdk_52_method_15_code (2 : Nat) (Option.some Jvm.ClassFile.FieldType.byte)).before args0 about1 = true := code_word (m := ⟨8, 1⟩) (meth := k8m1) (c := k8c1) (by decide +kernel) rfl rfl rfl (by decide +kernel)
set_option maxRecDepth 65536 in
theorem w_c8 : (Jvm.Cond.code ({ cls := "com/example/berth/berth/engine/Grouping", name := "<init>", desc := "(Ljava/lang/String;Z)V" } : Jvm.MethodName) prog_32_method_1_code (3 : Nat) (Option.none : Option Jvm.ClassFile.FieldType)).before args0 about1 = true := code_word (m := ⟨10, 0⟩) (meth := k10m0) (c := k10c0) (by decide +kernel) rfl rfl rfl (by decide +kernel)
set_option maxRecDepth 65536 in
theorem w_c9 : (Jvm.Cond.code ({ cls := "java/lang/Record", name := "<init>", desc := "()V" } : Jvm.MethodName) jdk_30_method_1_code (1 : Nat) (Option.none : Option Jvm.ClassFile.FieldType)).before args0 about1 = true := code_word (m := ⟨9, 0⟩) (meth := k9m0) (c := k9c0) (by decide +kernel) rfl rfl rfl (by decide +kernel)
set_option maxRecDepth 65536 in
theorem w_c10 : (Jvm.Cond.code ({ cls := "com/example/berth/berth/engine/Grouping", name := "equals", desc := "(Ljava/lang/Object;)Z" } : Jvm.MethodName) prog_32_method_4_code (3 : Nat) (Option.some Jvm.ClassFile.FieldType.boolean)).before args0 about1 = true := code_word (m := ⟨10, 1⟩) (meth := k10m1) (c := k10c1) (by decide +kernel) rfl rfl rfl (by decide +kernel)
set_option maxRecDepth 65536 in
theorem w_c11 : (Jvm.Cond.code ({ cls := "java/lang/String", name := "equals", desc := "(Ljava/lang/Object;)Z" } : Jvm.MethodName) jdk_42_method_66_code (3 : Nat) (Option.some Jvm.ClassFile.FieldType.boolean)).before args0 about1 = true := code_word (m := ⟨7, 2⟩) (meth := k7m2) (c := k7c2) (by decide +kernel) rfl rfl rfl (by decide +kernel)
set_option maxRecDepth 65536 in
theorem w_c12 : (Jvm.Cond.code ({ cls := "java/lang/StringLatin1", name := "equals", desc := "([B[B)Z" } : Jvm.MethodName) jdk_43_method_13_code (3 : Nat) (Option.some Jvm.ClassFile.FieldType.boolean)).before args0 about1 = true := code_word (m := ⟨11, 1⟩) (meth := k11m1) (c := k11c1) (by decide +kernel) rfl rfl rfl (by decide +kernel)
def codes1 : List Jvm.Cond := [Jvm.Cond.code x code maxLocals ret, Jvm.Cond.code ({ cls := "com/example/berth/berth/engine/GroupingEqualsPinLaw", name := "name", desc := "(II)Ljava/lang/String;" } : Jvm.MethodName) method_3_code (5 : Nat) (Option.some (Jvm.ClassFile.FieldType.object "java/lang/String")), Jvm.Cond.code ({ cls := "java/lang/String", name := "<init>", desc := "([C)V" } : Jvm.MethodName) jdk_42_method_3_code (2 : Nat) (Option.none : Option Jvm.ClassFile.FieldType), Jvm.Cond.code ({ cls := "java/lang/String", name := "<init>", desc := "([CIILjava/lang/Void;)V" } : Jvm.MethodName) jdk_42_method_149_code (6 : Nat) (Option.none : Option Jvm.ClassFile.FieldType), Jvm.Cond.code ({ cls := "java/lang/Object", name := "<init>", desc := "()V" } : Jvm.MethodName) object_method_1_code (1 : Nat) (Option.none : Option Jvm.ClassFile.FieldType), Jvm.Cond.code ({ cls := "java/lang/StringUTF16", name := "compress", desc := "([CII)[B" } : Jvm.MethodName) jdk_52_method_16_code (6 : Nat) (Option.some (Jvm.ClassFile.FieldType.array Jvm.ClassFile.FieldType.byte)), Jvm.Cond.code ({ cls := "java/lang/StringUTF16", name := "compress", desc := "([CI[BII)I" } : Jvm.MethodName) jdk_52_method_21_code (7 : Nat) (Option.some Jvm.ClassFile.FieldType.int), Jvm.Cond.code ({ cls := "java/lang/StringUTF16", name := "coderFromArrayLen", desc := "([BI)B" } : Jvm.MethodName) jdk_52_method_15_code (2 : Nat) (Option.some Jvm.ClassFile.FieldType.byte), Jvm.Cond.code ({ cls := "com/example/berth/berth/engine/Grouping", name := "<init>", desc := "(Ljava/lang/String;Z)V" } : Jvm.MethodName) prog_32_method_1_code (3 : Nat) (Option.none : Option Jvm.ClassFile.FieldType), Jvm.Cond.code ({ cls := "java/lang/Record", name := "<init>", desc := "()V" } : Jvm.MethodName) jdk_30_method_1_code (1 : Nat) (Option.none : Option Jvm.ClassFile.FieldType), Jvm.Cond.code ({ cls := "com/example/berth/berth/engine/Grouping", name := "equals", desc := "(Ljava/lang/Object;)Z" } : Jvm.MethodName) prog_32_method_4_code (3 : Nat) (Option.some Jvm.ClassFile.FieldType.boolean), Jvm.Cond.code ({ cls := "java/lang/String", name := "equals", desc := "(Ljava/lang/Object;)Z" } : Jvm.MethodName) jdk_42_method_66_code (3 : Nat) (Option.some Jvm.ClassFile.FieldType.boolean), Jvm.Cond.code ({ cls := "java/lang/StringLatin1", name := "equals", desc := "([B[B)Z" } : Jvm.MethodName) jdk_43_method_13_code (3 : Nat) (Option.some Jvm.ClassFile.FieldType.boolean)]
set_option maxRecDepth 65536 in
theorem codes_eq : words1.filter isCode = codes1 := rfl
theorem w_codes : ∀ c ∈ words1.filter isCode, c.before args0 about1 = true := by
  rw [codes_eq]
  intro c hc
  simp only [codes1, List.mem_cons, List.not_mem_nil, or_false] at hc
  rcases hc with rfl | rfl | rfl | rfl | rfl | rfl | rfl | rfl | rfl | rfl | rfl | rfl | rfl
  · exact w_c0
  · exact w_c1
  · exact w_c2
  · exact w_c3
  · exact w_c4
  · exact w_c5
  · exact w_c6
  · exact w_c7
  · exact w_c8
  · exact w_c9
  · exact w_c10
  · exact w_c11
  · exact w_c12
set_option maxRecDepth 65536 in
theorem w_t1 : (words1.take 24).all (fun c => isCode c || c.before args0 about1) = true := by decide +kernel
set_option maxRecDepth 65536 in
theorem w_t2 : ((words1.drop 24).take 24).all (fun c => isCode c || c.before args0 about1) = true := by decide +kernel
set_option maxRecDepth 65536 in
theorem w_t3 : (((words1.drop 24).drop 24).take 24).all (fun c => isCode c || c.before args0 about1) = true := by decide +kernel
set_option maxRecDepth 65536 in
theorem w_t4 : (((words1.drop 24).drop 24).drop 24).all (fun c => isCode c || c.before args0 about1) = true := by decide +kernel
theorem w_tables : (allAtoms (Jvm.Cond.code x code maxLocals ret :: tables_1)).before args0 about1 = true := by
  rw [allAtoms_all]
  show words1.all (fun c => c.before args0 about1) = true
  refine all_split ?_ w_codes
  rw [← List.take_append_drop 24 words1, List.all_append, w_t1, ← List.take_append_drop 24 (words1.drop 24), List.all_append, w_t2, ← List.take_append_drop 24 ((words1.drop 24).drop 24), List.all_append, w_t3, w_t4]
  rfl
set_option maxRecDepth 65536 in
theorem w_rest : rest_1_c.before args0 about1 = true := by decide +kernel
set_option maxRecDepth 65536 in
theorem w_case : (Jvm.Cond.and given_1 narrow_1).before args0 about1 = true := by decide +kernel
set_option maxRecDepth 65536 in
theorem w_consts : constsHeld consts_1 about1 := Jvm.Lit.constsHeldB_iff.mp (by decide +kernel)
theorem w_applies : (headSpec (Jvm.Cond.code x code maxLocals ret :: tables_1) room_1).applies x e0.platform about1 = true :=
  (Spec.applies_iff w_frames).mpr ⟨w_running, w_runnable, w_alone, w_named, w_hears, w_ripe, w_room, w_tables⟩
theorem atStart : AtStart classFile x code maxLocals ret World_1 tables_1 room_1 Calls_1 rest_1 Pre_1 launch0 p0 e0 about1 theMethod args0 below0 :=
  ⟨lists_1, trivial, launch0.admits_env _ _ _, launch0.least_env, fairChoices_fair.cas, fairChoices_fair.clock, w_frames, w_args, w_heap, w_applies, ⟨w_consts, trivial⟩, w_rest, w_case⟩
end start1
theorem witness_1 : WitnessClaimed_1 := ⟨start1.p0, start1.e0, start1.about1, start1.theMethod, start1.args0, start1.below0, start1.atStart⟩
end Jvm.Pilot.@@N@@
