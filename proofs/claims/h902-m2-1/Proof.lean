import JvmDerived
import JvmDerived.Pilot.@@N@@Statement
import JvmDerived.Pilot.@@N@@Code
set_option linter.unusedVariables false
set_option linter.unusedSimpArgs false
/- laws to paste: Road.backV, Road.chN, Road.lenW, Road.eqW, Road.codOf (cut by pick.py; bodies as the Statement names them) -/
namespace Jvm.Pilot.@@N@@
namespace StrChars
open Jvm Sem ClassFile Op Lib Jvm.Stand Jvm.Free.XT Jvm.Free.ALB Jvm.Free.JM Jvm.Free
open Jvm.Lib.Cold (StaticIs)
/-- a char array whose places are chars -/
def Ch (a : Addr) (A : Cell) (U : State) : Prop := Arr .char a A U ∧ Typed .char A
theorem Ch.mv {a : Addr} {A : Cell} {U U' : State} (h : Ch a A U) (hal : U.vm.Alike U'.vm) (hh : U'.heap = U.heap) : Ch a A U' := ⟨h.1.mv hal hh, h.2⟩
theorem Ch.keep {a : Addr} {A : Cell} {U U' : State} (h : Ch a A U) (hal : U.vm.Alike U'.vm) (hk : U'.heap[a]? = some A) : Ch a A U' := ⟨h.1.keep hal hk, h.2⟩
/-- what place i of a char[]'s cell holds -/
def cv (A : Cell) (i : Nat) : Int32 := match A.slots[i]? with | some (.int x) => x | _ => 0
theorem Ch.get {a : Addr} {A : Cell} {U : State} (h : Ch a A U) {i : Nat} (hi : i < A.slots.size) : A.slots[i]? = some (.int (cv A i)) := by
  have e := Array.getElem?_eq_getElem hi
  have f := h.2 i _ e
  unfold cv; rw [e]
  generalize A.slots[i] = v at f
  cases v <;> simp [fits] at f ⊢
/-- the byte that i2b leaves of a char -/
def lo8 (x : Int32) : Int32 := x.toInt8.toInt32
theorem fits_lo8 (y : Int32) : fits .byte (.int (lo8 y)) = true := by
  have h1 := y.toInt8.le_toInt
  have h2 := y.toInt8.toInt_lt
  simp only [lo8, fits, Bool.and_eq_true, decide_eq_true_eq, Int32.le_iff_toInt_le, Int8.toInt_toInt32, show (-128 : Int32).toInt = -128 from by decide, show (127 : Int32).toInt = 127 from by decide]
  omega
/-- A' is A but that each place j of lo .. hi - 1 holds f j -/
def Laid (A A' : Cell) (lo hi : Nat) (f : Nat → Value) : Prop := A'.cls = A.cls ∧ A'.vm = A.vm ∧ A'.slots.size = A.slots.size ∧ ∀ i, A'.slots[i]? = if lo ≤ i ∧ i < hi then some (f i) else A.slots[i]?
theorem Laid.zero (A : Cell) (lo : Nat) (f : Nat → Value) : Laid A A lo (lo + 0) f := ⟨rfl, rfl, rfl, fun i => by rw [if_neg (by omega)]⟩
theorem Laid.step {A Ak : Cell} {lo k : Nat} {f : Nat → Value} {v : Value} (h : Laid A Ak lo k f) (hlo : lo ≤ k) (hk : k < Ak.slots.size) (hv : v = f k) : Laid A (Ak.setSlot k v) lo (k + 1) f := by
  refine ⟨h.1, h.2.1, by simpa [Cell.setSlot] using h.2.2.1, fun i => ?_⟩
  by_cases e : k = i
  · subst e; rw [Cell.slots_setSlot_self v hk, if_pos (by omega), hv]
  · rw [Cell.slots_setSlot_ne v e, h.2.2.2 i]
    by_cases q : lo ≤ i ∧ i < k
    · rw [if_pos q, if_pos (by omega)]
    · rw [if_neg q, if_neg (by omega)]
def U16 : String := "java/lang/StringUTF16"
namespace Cmp5
def yN : MethodName := ⟨"java/lang/StringUTF16", "compress", "([CI[BII)I"⟩
abbrev yB : ByteArray := jdk_52_method_21_code
theorem d0 : decode yB 0 = .ok (.iconst 0, 1) := by decide +kernel
theorem d1 : decode yB 1 = .ok (.istore 5, 2) := by decide +kernel
theorem d3 : decode yB 3 = .ok (.iload 5, 2) := by decide +kernel
theorem d5 : decode yB 5 = .ok (.iload 4, 2) := by decide +kernel
theorem d7 : decode yB 7 = .ok (.if_icmp (.ge) 37, 3) := by decide +kernel
theorem d10 : decode yB 10 = .ok (.aload_n 0, 1) := by decide +kernel
theorem d11 : decode yB 11 = .ok (.iload_n 1, 1) := by decide +kernel
theorem d12 : decode yB 12 = .ok (.caload, 1) := by decide +kernel
theorem d13 : decode yB 13 = .ok (.istore 6, 2) := by decide +kernel
theorem d15 : decode yB 15 = .ok (.iload 6, 2) := by decide +kernel
theorem d17 : decode yB 17 = .ok (.sipush 255, 3) := by decide +kernel
theorem d20 : decode yB 20 = .ok (.if_icmp (.le) 6, 3) := by decide +kernel
theorem d26 : decode yB 26 = .ok (.aload_n 2, 1) := by decide +kernel
theorem d27 : decode yB 27 = .ok (.iload_n 3, 1) := by decide +kernel
theorem d28 : decode yB 28 = .ok (.iload 6, 2) := by decide +kernel
theorem d30 : decode yB 30 = .ok (.i2b, 1) := by decide +kernel
theorem d31 : decode yB 31 = .ok (.bastore, 1) := by decide +kernel
theorem d32 : decode yB 32 = .ok (.iinc 1 1, 3) := by decide +kernel
theorem d35 : decode yB 35 = .ok (.iinc 3 1, 3) := by decide +kernel
theorem d38 : decode yB 38 = .ok (.iinc 5 1, 3) := by decide +kernel
theorem d41 : decode yB 41 = .ok (.goto (-38), 3) := by decide +kernel
theorem d44 : decode yB 44 = .ok (.iload 4, 2) := by decide +kernel
theorem d46 : decode yB 46 = .ok (.ireturn, 1) := by decide +kernel
def site : List Cond := []
def tab : Cond := tabOf yN yB 7 (some .int) site
def P (b : Addr) (A : Cell) (d : Addr) (B : Cell) (o q len : Nat) (args : Array Value) (s : State) : Prop := args = #[.ref b, .int (Int32.ofNat o), .ref d, .int (Int32.ofNat q), .int (Int32.ofNat len)] ∧ Ch b A s ∧ Arr .byte d B s ∧ b ≠ d ∧ o + len ≤ A.slots.size ∧ q + len ≤ B.slots.size ∧ ∀ i, i < len → ¬ 255 < cv A (o + i)
def E (b : Addr) (A : Cell) (d : Addr) (B : Cell) (o q len : Nat) (r : Option Value) (s u : State) : Prop := r = some (.int (Int32.ofNat len)) ∧ ∃ B', Put d B' s u ∧ Laid B B' q (q + len) (fun j => Value.int (lo8 (cv A (o + (j - q)))))
/-- no char of the range above 255: len; the places written hold each char's low byte -/
theorem law (l : Launch) (b : Addr) (A : Cell) (d : Addr) (B : Cell) (o q len : Nat) : Law l yN 5 5 0 0 yB 7 (some .int) site (P b A d B o q len) (E b A d B o q len) (copyLocs d q len) 0 0 := by
  refine Law.of_walk (plainFor_of_name (by decide +kernel)) (by decide +kernel) (by decide +kernel) (by decide) (fun _ _ h => by rw [h.1]; rfl) (fun _ U U' hal hh h => ⟨h.1, h.2.1.mv hal hh, h.2.2.1.mv hal hh, h.2.2.2⟩) (fun r U U' V V' h1 hal h2 h => ⟨h.1, h.2.elim fun B' q => ⟨B', q.1.mv h1 h2, q.2⟩⟩) ?_
  intro p e s m args below meth c s₁ X0 hexec hbytes hml hret hlk hnm hown hh0 W hP
  obtain ⟨rfl, hA, hB, hne, l1, l2, hp⟩ := hP
  have c1 : Steps p.tables e below (s₁.setTop (entryFrame m #[.ref b, .int (Int32.ofNat o), .ref d, .int (Int32.ofNat q), .int (Int32.ofNat len)] 7)) (s₁.setTop (mkF m 0 #[.val (.ref b), .val (.int (Int32.ofNat o)), .val (.ref d), .val (.int (Int32.ofNat q)), .val (.int (Int32.ofNat len)), .unset, .unset] [])) := entry rfl
  have hA0 := hA.1.mv X0.warmed.alike hh0
  have hB0 := hB.mv X0.warmed.alike hh0
  have a31 := hA.1.2.2.2
  have c2 : Steps p.tables e below (s₁.setTop (entryFrame m #[.ref b, .int (Int32.ofNat o), .ref d, .int (Int32.ofNat q), .int (Int32.ofNat len)] 7)) (s₁.setTop (mkF m 3 #[.val (.ref b), .val (.int (Int32.ofNat o)), .val (.ref d), .val (.int (Int32.ofNat q)), .val (.int (Int32.ofNat len)), .val (.int 0), .unset] [])) := c1.trans (by
    refine iconstV X0.here hexec rfl 0 (hb hbytes d0) (by decide) ?_
    refine XS.istore X0.here hexec rfl (hb hbytes d1) rfl rfl ?_
    exact Steps.refl _)
  have loop : ∀ (r i : Nat), i + r = len → ∀ (z : Slot), (z = .unset ∨ ∃ w, z = .val w ∧ w.category = 1) → ∀ (Tl : State) (Bk : Cell), Stand p l e { frames := 0, locals := 0, cells := 0, slots := 0 } s m #[.ref b, .int (Int32.ofNat o), .ref d, .int (Int32.ofNat q), .int (Int32.ofNat len)] below meth c Tl ([] ++ copyLocs d q i) 0 0 → Put d Bk s₁ Tl → Laid B Bk q (q + i) (fun j => Value.int (lo8 (cv A (o + (j - q))))) →
      Steps p.tables e below (s₁.setTop (entryFrame m #[.ref b, .int (Int32.ofNat o), .ref d, .int (Int32.ofNat q), .int (Int32.ofNat len)] 7)) (Tl.setTop (mkF m 3 #[.val (.ref b), .val (.int (Int32.ofNat (o + i))), .val (.ref d), .val (.int (Int32.ofNat (q + i))), .val (.int (Int32.ofNat len)), .val (.int (Int32.ofNat i)), z] [])) → ∃ (T' : State) (B' : Cell) (z' : Slot), Stand p l e { frames := 0, locals := 0, cells := 0, slots := 0 } s m #[.ref b, .int (Int32.ofNat o), .ref d, .int (Int32.ofNat q), .int (Int32.ofNat len)] below meth c T' ([] ++ copyLocs d q len) 0 0 ∧ Put d B' s₁ T' ∧ Laid B B' q (q + len) (fun j => Value.int (lo8 (cv A (o + (j - q))))) ∧
      Steps p.tables e below (s₁.setTop (entryFrame m #[.ref b, .int (Int32.ofNat o), .ref d, .int (Int32.ofNat q), .int (Int32.ofNat len)] 7)) (T'.setTop (mkF m 3 #[.val (.ref b), .val (.int (Int32.ofNat (o + len))), .val (.ref d), .val (.int (Int32.ofNat (q + len))), .val (.int (Int32.ofNat len)), .val (.int (Int32.ofNat len)), z'] [])) := by
    intro r
    induction r with
    | zero =>
      intro i hi z hz Tl Bk Xl pl fl cl
      have hil : i = len := by omega
      rw [hil] at Xl fl cl
      exact ⟨Tl, Bk, z, Xl, pl, fl, cl⟩
    | succ r ih =>
      intro i hi z hz Tl Bk Xl pl fl cl
      have all := X0.warmed.alike.symm.trans Xl.warmed.alike
      have hAl := hA0.keep all (pl.other hne hA0.1)
      have hBk := hB0.like all pl.1 fl.1 fl.2.1 fl.2.2.1
      have hlt : q + i < Bk.slots.size := by rw [fl.2.2.1]; omega
      have c3 : Steps p.tables e below (s₁.setTop (entryFrame m #[.ref b, .int (Int32.ofNat o), .ref d, .int (Int32.ofNat q), .int (Int32.ofNat len)] 7)) (Tl.setTop (mkF m 12 #[.val (.ref b), .val (.int (Int32.ofNat (o + i))), .val (.ref d), .val (.int (Int32.ofNat (q + i))), .val (.int (Int32.ofNat len)), .val (.int (Int32.ofNat i)), z] [.int (Int32.ofNat (o + i)), .ref b])) := cl.trans (by
        refine XS.iload Xl.here hexec rfl (hb hbytes d3) rfl ?_
        refine XS.iload Xl.here hexec rfl (hb hbytes d5) rfl ?_
        refine XS.icmpNo Xl.here hexec rfl (hb hbytes d7) rfl (ii_ge_f (lt32 (by omega) (by omega))) ?_
        refine XS.aloadN Xl.here hexec rfl (hb hbytes d10) rfl rfl ?_
        refine XS.iloadN Xl.here hexec rfl (hb hbytes d11) rfl ?_
        exact Steps.refl _)
      have c4 : Steps p.tables e below (s₁.setTop (entryFrame m #[.ref b, .int (Int32.ofNat o), .ref d, .int (Int32.ofNat q), .int (Int32.ofNat len)] 7)) (Tl.setTop (mkF m 13 #[.val (.ref b), .val (.int (Int32.ofNat (o + i))), .val (.ref d), .val (.int (Int32.ofNat (q + i))), .val (.int (Int32.ofNat len)), .val (.int (Int32.ofNat i)), z] [.int (cv A (o + i))])) := c3.trans (by
        refine Xl.aget hexec hAl rfl (hA.get (i := o + i) (by omega)) rfl rfl (hb hbytes d12) ?_
        exact Steps.refl _)
      have c5 : Steps p.tables e below (s₁.setTop (entryFrame m #[.ref b, .int (Int32.ofNat o), .ref d, .int (Int32.ofNat q), .int (Int32.ofNat len)] 7)) (Tl.setTop (mkF m 15 #[.val (.ref b), .val (.int (Int32.ofNat (o + i))), .val (.ref d), .val (.int (Int32.ofNat (q + i))), .val (.int (Int32.ofNat len)), .val (.int (Int32.ofNat i)), .val (.int (cv A (o + i)))] [])) := c4.trans (by
        refine XS.istoreS Xl.here hexec rfl (hb hbytes d13) rfl rfl hz ?_
        exact Steps.refl _)
      have c6 : Steps p.tables e below (s₁.setTop (entryFrame m #[.ref b, .int (Int32.ofNat o), .ref d, .int (Int32.ofNat q), .int (Int32.ofNat len)] 7)) (Tl.setTop (mkF m 31 #[.val (.ref b), .val (.int (Int32.ofNat (o + i))), .val (.ref d), .val (.int (Int32.ofNat (q + i))), .val (.int (Int32.ofNat len)), .val (.int (Int32.ofNat i)), .val (.int (cv A (o + i)))] [.int (lo8 (cv A (o + i))), .int (Int32.ofNat (q + i)), .ref d])) := c5.trans (by
        refine XS.iload Xl.here hexec rfl (hb hbytes d15) rfl ?_
        refine sipushV Xl.here hexec rfl 255 (hb hbytes d17) (by decide) ?_
        refine XS.icmpYes Xl.here hexec rfl (pc0 := 20) rfl (hb hbytes d20) rfl (ii_le_t (hp i (by omega))) (by decide) rfl ?_
        refine XS.aloadN Xl.here hexec rfl (hb hbytes d26) rfl rfl ?_
        refine XS.iloadN Xl.here hexec rfl (hb hbytes d27) rfl ?_
        refine XS.iload Xl.here hexec rfl (hb hbytes d28) rfl ?_
        refine i2b Xl.here hexec rfl (hb hbytes d30) rfl ?_
        exact Steps.refl _)
      obtain ⟨T7, X7, p7, st7⟩ := Xl.aput hexec hBk rfl hlt rfl (fits_lo8 (cv A (o + i))) (g := (mkF m 31 #[.val (.ref b), .val (.int (Int32.ofNat (o + i))), .val (.ref d), .val (.int (Int32.ofNat (q + i))), .val (.int (Int32.ofNat len)), .val (.int (Int32.ofNat i)), .val (.int (cv A (o + i)))] [.int (lo8 (cv A (o + i))), .int (Int32.ofNat (q + i)), .ref d])) rfl (rest := []) rfl (hb hbytes d31)
      have c8 : Steps p.tables e below (s₁.setTop (entryFrame m #[.ref b, .int (Int32.ofNat o), .ref d, .int (Int32.ofNat q), .int (Int32.ofNat len)] 7)) (T7.setTop (mkF m 32 #[.val (.ref b), .val (.int (Int32.ofNat (o + i))), .val (.ref d), .val (.int (Int32.ofNat (q + i))), .val (.int (Int32.ofNat len)), .val (.int (Int32.ofNat i)), .val (.int (cv A (o + i)))] [])) := c6.trans (st7 _ (Steps.refl _))
      have c9 : Steps p.tables e below (s₁.setTop (entryFrame m #[.ref b, .int (Int32.ofNat o), .ref d, .int (Int32.ofNat q), .int (Int32.ofNat len)] 7)) (T7.setTop (mkF m 3 #[.val (.ref b), .val (.int (Int32.ofNat (o + i) + 1)), .val (.ref d), .val (.int (Int32.ofNat (q + i) + 1)), .val (.int (Int32.ofNat len)), .val (.int (Int32.ofNat i + 1)), .val (.int (cv A (o + i)))] [])) := c8.trans (by
        refine iincV X7.here hexec rfl 1 (hb hbytes d32) (by decide) rfl rfl ?_
        refine iincV X7.here hexec rfl 1 (hb hbytes d35) (by decide) rfl rfl ?_
        refine iincV X7.here hexec rfl 1 (hb hbytes d38) (by decide) rfl rfl ?_
        refine XS.goto X7.here hexec rfl (pc0 := 41) rfl (hb hbytes d41) (by decide) rfl ?_
        exact Steps.refl _)
      have c10 : Steps p.tables e below (s₁.setTop (entryFrame m #[.ref b, .int (Int32.ofNat o), .ref d, .int (Int32.ofNat q), .int (Int32.ofNat len)] 7)) (T7.setTop (mkF m 3 #[.val (.ref b), .val (.int (Int32.ofNat (o + (i + 1)))), .val (.ref d), .val (.int (Int32.ofNat (q + (i + 1)))), .val (.int (Int32.ofNat len)), .val (.int (Int32.ofNat (i + 1))), .val (.int (cv A (o + i)))] [])) := by
        have := c9
        rw [succ32, succ32, succ32] at this
        exact this
      exact ih (i + 1) (by omega) _ (Or.inr ⟨_, rfl, rfl⟩) T7 _ (by rw [copyLocs_step, ← List.append_assoc]; exact X7) (pl.trans p7) (fl.step (by omega) hlt (by simp)) c10
  obtain ⟨T9, B9, z9, X9, p9, f9, g9⟩ := loop len 0 (by omega) .unset (Or.inl rfl) s₁ B (by simpa [copyLocs] using X0) ⟨hB0.1, fun _ _ => rfl, rfl⟩ (Laid.zero _ _ _) c2
  have c11 : Steps p.tables e below (s₁.setTop (entryFrame m #[.ref b, .int (Int32.ofNat o), .ref d, .int (Int32.ofNat q), .int (Int32.ofNat len)] 7)) (T9.setTop (mkF m 46 #[.val (.ref b), .val (.int (Int32.ofNat (o + len))), .val (.ref d), .val (.int (Int32.ofNat (q + len))), .val (.int (Int32.ofNat len)), .val (.int (Int32.ofNat len)), z9] [.int (Int32.ofNat len)])) := g9.trans (by
    refine XS.iload X9.here hexec rfl (hb hbytes d3) rfl ?_
    refine XS.iload X9.here hexec rfl (hb hbytes d5) rfl ?_
    refine XS.icmpYes X9.here hexec rfl (pc0 := 7) rfl (hb hbytes d7) rfl (ii_ge_t (nlt32 (by omega) (Nat.le_refl _))) (by decide) rfl ?_
    refine XS.iload X9.here hexec rfl (hb hbytes d44) rfl ?_
    exact Steps.refl _)
  exact ⟨T9, some (.int (Int32.ofNat len)), _, _, _, X9, by simp, rfl, rfl, (fun h => by cases h), ⟨rfl, B9, p9.from hh0, f9⟩, fun fs hl => c11.trans (X9.ireturnOut hexec hret rfl (Or.inl rfl) (hb hbytes d46) hl)⟩
end Cmp5
namespace Cmp3
def yN : MethodName := ⟨"java/lang/StringUTF16", "compress", "([CII)[B"⟩
abbrev yB : ByteArray := jdk_52_method_16_code
theorem d0 : decode yB 0 = .ok (.iload_n 2, 1) := by decide +kernel
theorem d1 : decode yB 1 = .ok (.newarray .byte, 2) := by decide +kernel
theorem d3 : decode yB 3 = .ok (.astore_n 3, 1) := by decide +kernel
theorem d4 : decode yB 4 = .ok (.aload_n 0, 1) := by decide +kernel
theorem d5 : decode yB 5 = .ok (.iload_n 1, 1) := by decide +kernel
theorem d6 : decode yB 6 = .ok (.aload_n 3, 1) := by decide +kernel
theorem d7 : decode yB 7 = .ok (.iconst 0, 1) := by decide +kernel
theorem d8 : decode yB 8 = .ok (.iload_n 2, 1) := by decide +kernel
theorem d9 : decode yB 9 = .ok (.invokestatic 115, 3) := by decide +kernel
theorem d12 : decode yB 12 = .ok (.istore 4, 2) := by decide +kernel
theorem d14 : decode yB 14 = .ok (.iload 4, 2) := by decide +kernel
theorem d16 : decode yB 16 = .ok (.iload_n 2, 1) := by decide +kernel
theorem d17 : decode yB 17 = .ok (.if_icmp (.eq) 40, 3) := by decide +kernel
theorem d57 : decode yB 57 = .ok (.aload_n 3, 1) := by decide +kernel
theorem d58 : decode yB 58 = .ok (.areturn, 1) := by decide +kernel
def site : List Cond := [.arrayClass .byte, Cmp5.tab] ++ staticW U16 115 Cmp5.yN
def tab : Cond := tabOf yN yB 6 (some (.array .byte)) site
def P (b : Addr) (A : Cell) (o len : Nat) (args : Array Value) (s : State) : Prop := args = #[.ref b, .int (Int32.ofNat o), .int (Int32.ofNat len)] ∧ Ch b A s ∧ o + len ≤ A.slots.size ∧ len ≤ 536870912 ∧ ∀ i, i < len → ¬ 255 < cv A (o + i)
def E (b : Addr) (A : Cell) (o len : Nat) (r : Option Value) (s u : State) : Prop := NewArr .byte "[B" len (fun j => .int (lo8 (cv A (o + j)))) r s u ∧ u.heap.size = s.heap.size + 1
/-- no char of the range above 255: a new byte[] of their low bytes -/
theorem law (l : Launch) (b : Addr) (A : Cell) (o len : Nat) : Law l yN 3 3 1 18 yB 6 (some (.array .byte)) site (P b A o len) (E b A o len) [] 1 len := by
  refine Law.of_walk (plainFor_of_name (by decide +kernel)) (by decide +kernel) (by decide +kernel) (by decide) (fun _ _ h => by rw [h.1]; rfl) (fun _ U U' hal hh h => ⟨h.1, h.2.1.mv hal hh, h.2.2⟩) (fun r U U' V V' h1 hal h2 h => ⟨NewArr.mv r U U' V V' h1 hal h2 h.1, by rw [h1, h2]; exact h.2⟩) ?_
  intro p e s m args below meth c s₁ X0 hexec hbytes hml hret hlk hnm hown hh0 W hP
  obtain ⟨rfl, hA, l1, l2, hp⟩ := hP
  have a31 := hA.1.2.2.2
  have c1 : Steps p.tables e below (s₁.setTop (entryFrame m #[.ref b, .int (Int32.ofNat o), .int (Int32.ofNat len)] 6)) (s₁.setTop (mkF m 0 #[.val (.ref b), .val (.int (Int32.ofNat o)), .val (.int (Int32.ofNat len)), .unset, .unset, .unset] [])) := entry rfl
  have c2 : Steps p.tables e below (s₁.setTop (entryFrame m #[.ref b, .int (Int32.ofNat o), .int (Int32.ofNat len)] 6)) (s₁.setTop (mkF m 1 #[.val (.ref b), .val (.int (Int32.ofNat o)), .val (.int (Int32.ofNat len)), .unset, .unset, .unset] [.int (Int32.ofNat len)])) := c1.trans (by
    refine XS.iloadN X0.here hexec rfl (hb hbytes d0) rfl ?_
    exact Steps.refl _)
  obtain ⟨T3, B3, X3, ba3, bs3, bv3, bh3, bf3, st3⟩ := X0.anew hexec (atype := .byte) (wk W (.arrayClass .byte)) rfl (by show len * 1 ≤ _; omega) (by omega) (g := (mkF m 1 #[.val (.ref b), .val (.int (Int32.ofNat o)), .val (.int (Int32.ofNat len)), .unset, .unset, .unset] [.int (Int32.ofNat len)])) rfl (hb hbytes d1) (rest := []) rfl (Nat.le_refl _) (by show 0 + len ≤ len; omega)
  rw [hh0] at ba3 st3
  have kp3 : XT.Kept s T3 := (XT.Kept.of_eq hh0).push bh3
  have hA3 := hA.keep X3.warmed.alike (kp3 _ _ hA.1.1)
  have hne : b ≠ s.heap.size := hA.1.ne
  have c4 : Steps p.tables e below (s₁.setTop (entryFrame m #[.ref b, .int (Int32.ofNat o), .int (Int32.ofNat len)] 6)) (T3.setTop (mkF m 3 #[.val (.ref b), .val (.int (Int32.ofNat o)), .val (.int (Int32.ofNat len)), .unset, .unset, .unset] [.ref s.heap.size])) := c2.trans (st3 _ (Steps.refl _))
  have c5 : Steps p.tables e below (s₁.setTop (entryFrame m #[.ref b, .int (Int32.ofNat o), .int (Int32.ofNat len)] 6)) (T3.setTop (mkF m 9 #[.val (.ref b), .val (.int (Int32.ofNat o)), .val (.int (Int32.ofNat len)), .val (.ref s.heap.size), .unset, .unset] [.int (Int32.ofNat len), .int 0, .ref s.heap.size, .int (Int32.ofNat o), .ref b])) := c4.trans (by
    refine XS.astoreN X3.here hexec rfl (hb hbytes d3) rfl rfl rfl ?_
    refine XS.aloadN X3.here hexec rfl (hb hbytes d4) rfl rfl ?_
    refine XS.iloadN X3.here hexec rfl (hb hbytes d5) rfl ?_
    refine XS.aloadN X3.here hexec rfl (hb hbytes d6) rfl rfl ?_
    refine iconstV X3.here hexec rfl 0 (hb hbytes d7) (by decide) ?_
    refine XS.iloadN X3.here hexec rfl (hb hbytes d8) rfl ?_
    exact Steps.refl _)
  obtain ⟨v6, T6, X6, E6, g6⟩ := X3.callS hexec (Cmp5.law l b A s.heap.size B3 o 0 len) hown (wks W (staticW U16 115 Cmp5.yN)) (wk W Cmp5.tab) (W := 0) (Nat.le_of_ble_eq_true rfl) (Nat.le_of_ble_eq_true rfl) (Nat.le_refl _) (by show 0 + len + 0 ≤ len; omega) (g := (mkF m 9 #[.val (.ref b), .val (.int (Int32.ofNat o)), .val (.int (Int32.ofNat len)), .val (.ref s.heap.size), .unset, .unset] [.int (Int32.ofNat len), .int (Int32.ofNat 0), .ref s.heap.size, .int (Int32.ofNat o), .ref b])) rfl (by rw [hml]; rfl) c5 (argsL := [.ref b, .int (Int32.ofNat o), .ref s.heap.size, .int (Int32.ofNat 0), .int (Int32.ofNat len)]) (rest := []) rfl rfl (by show 2 * 0 + 0 ≤ _; decide) (hb hbytes d9) (⟨rfl, hA3, ba3, hne, l1, by rw [bs3]; simp, hp⟩)
  obtain ⟨rfl, B6, p6, f6⟩ := E6
  have c7 : Steps p.tables e below (s₁.setTop (entryFrame m #[.ref b, .int (Int32.ofNat o), .int (Int32.ofNat len)] 6)) (T6.setTop (mkF m 12 #[.val (.ref b), .val (.int (Int32.ofNat o)), .val (.int (Int32.ofNat len)), .val (.ref s.heap.size), .unset, .unset] [.int (Int32.ofNat len)])) := g6
  have c8 : Steps p.tables e below (s₁.setTop (entryFrame m #[.ref b, .int (Int32.ofNat o), .int (Int32.ofNat len)] 6)) (T6.setTop (mkF m 58 #[.val (.ref b), .val (.int (Int32.ofNat o)), .val (.int (Int32.ofNat len)), .val (.ref s.heap.size), .val (.int (Int32.ofNat len)), .unset] [.ref s.heap.size])) := c7.trans (by
    refine XS.istore X6.here hexec rfl (hb hbytes d12) rfl rfl ?_
    refine XS.iload X6.here hexec rfl (hb hbytes d14) rfl ?_
    refine XS.iloadN X6.here hexec rfl (hb hbytes d16) rfl ?_
    refine XS.icmpYes X6.here hexec rfl (pc0 := 17) rfl (hb hbytes d17) rfl (ii_eq_t rfl) (by decide) rfl ?_
    refine XS.aloadN X6.here hexec rfl (hb hbytes d57) rfl rfl ?_
    exact Steps.refl _)
  have X8 := X6.wide (L' := []) (cells' := 1) (slots' := len) (fun x hx hlt => by
    simp only [List.nil_append, copyLocs, List.mem_map, List.mem_range] at hx
    obtain ⟨i, -, rfl⟩ := hx
    exact absurd hlt (Nat.lt_irrefl _)) (Nat.le_refl _) (by omega)
  exact ⟨T6, some (.ref s.heap.size), _, _, _, X8, rfl, rfl, rfl, (fun h => by cases h), ⟨⟨rfl, B6, ba3.like (X3.warmed.alike.symm.trans X6.warmed.alike) p6.1 f6.1 f6.2.1 f6.2.2.1, f6.2.1.trans bv3, by rw [X6.warmed.alike.findClass, f6.1]; exact bf3, by rw [f6.2.2.1, bs3]; simp, fun j hj => by rw [f6.2.2.2 j, if_pos (by omega)]; rfl, kp3.put p6 (Nat.le_refl _)⟩, by rw [p6.2.2, bh3, hh0]; simp⟩, fun fs hl => c8.trans (X8.areturnOut hexec rfl hret rfl (hb hbytes d58) hl)⟩
end Cmp3
namespace CodL
def yN : MethodName := ⟨"java/lang/StringUTF16", "coderFromArrayLen", "([BI)B"⟩
abbrev yB : ByteArray := jdk_52_method_15_code
theorem d0 : decode yB 0 = .ok (.iload_n 1, 1) := by decide +kernel
theorem d1 : decode yB 1 = .ok (.aload_n 0, 1) := by decide +kernel
theorem d2 : decode yB 2 = .ok (.arraylength, 1) := by decide +kernel
theorem d3 : decode yB 3 = .ok (.isub, 1) := by decide +kernel
theorem d4 : decode yB 4 = .ok (.bipush 31, 2) := by decide +kernel
theorem d6 : decode yB 6 = .ok (.iushr, 1) := by decide +kernel
theorem d7 : decode yB 7 = .ok (.i2b, 1) := by decide +kernel
theorem d8 : decode yB 8 = .ok (.ireturn, 1) := by decide +kernel
def site : List Cond := []
def tab : Cond := tabOf yN yB 2 (some .byte) site
def P (d : Addr) (B : Cell) (args : Array Value) (s : State) : Prop := args = #[.ref d, .int (Int32.ofNat B.slots.size)] ∧ Arr .byte d B s
def E (r : Option Value) (s u : State) : Prop := XT.PureE (some (.int 0)) r s u
/-- an array as long as the number of chars: LATIN1 -/
theorem law (l : Launch) (d : Addr) (B : Cell) : Law l yN 2 2 0 0 yB 2 (some .byte) site (P d B) E [] 0 0 := by
  refine Law.of_walk (plainFor_of_name (by decide +kernel)) (by decide +kernel) (by decide +kernel) (by decide) (fun _ _ h => by rw [h.1]; rfl) (fun _ U U' hal hh h => ⟨h.1, h.2.mv hal hh⟩) (fun r U U' V V' h1 hal h2 h => XT.PureE.mv r U U' V V' h1 hal h2 h) ?_
  intro p e s m args below meth c s₁ X0 hexec hbytes hml hret hlk hnm hown hh0 W hP
  obtain ⟨rfl, hB⟩ := hP
  have hB0 := hB.mv X0.warmed.alike hh0
  have c1 : Steps p.tables e below (s₁.setTop (entryFrame m #[.ref d, .int (Int32.ofNat B.slots.size)] 2)) (s₁.setTop (mkF m 0 #[.val (.ref d), .val (.int (Int32.ofNat B.slots.size))] [])) := entry rfl
  have c2 : Steps p.tables e below (s₁.setTop (entryFrame m #[.ref d, .int (Int32.ofNat B.slots.size)] 2)) (s₁.setTop (mkF m 2 #[.val (.ref d), .val (.int (Int32.ofNat B.slots.size))] [.ref d, .int (Int32.ofNat B.slots.size)])) := c1.trans (by
    refine XS.iloadN X0.here hexec rfl (hb hbytes d0) rfl ?_
    refine XS.aloadN X0.here hexec rfl (hb hbytes d1) rfl rfl ?_
    exact Steps.refl _)
  have c3 : Steps p.tables e below (s₁.setTop (entryFrame m #[.ref d, .int (Int32.ofNat B.slots.size)] 2)) (s₁.setTop (mkF m 8 #[.val (.ref d), .val (.int (Int32.ofNat B.slots.size))] [.int (lo8 (ushr (Int32.ofNat B.slots.size - Int32.ofNat B.slots.size) 31))])) := c2.trans (by
    refine X0.alen hexec hB0 rfl rfl (hb hbytes d2) ?_
    refine XS.isub X0.here hexec rfl (hb hbytes d3) rfl ?_
    refine bipushV X0.here hexec rfl 31 (hb hbytes d4) (by decide) ?_
    refine iushr X0.here hexec rfl (hb hbytes d6) rfl ?_
    refine i2b X0.here hexec rfl (hb hbytes d7) rfl ?_
    exact Steps.refl _)
  have e0 : lo8 (ushr (Int32.ofNat B.slots.size - Int32.ofNat B.slots.size) 31) = 0 := by rw [Int32.sub_self]; decide
  rw [e0] at c3
  exact ⟨s₁, some (.int 0), _, _, _, X0, rfl, rfl, rfl, (fun h => by cases h), ⟨rfl, hh0⟩, fun fs hl => c3.trans (X0.ireturnOut hexec hret rfl (Or.inr (Or.inr (Or.inl rfl))) (hb hbytes d8) hl)⟩
end CodL
/-- the String at a is Latin-1 over a new byte[] (the heap's one new cell): the low bytes of the len chars of A from o on; every cell but a is kept -/
def Got (a : Addr) (D : Cell) (fV fC : Field) (A : Cell) (o len : Nat) (r : Option Value) (s u : State) : Prop := r = none ∧ ∃ D' V : Cell, Blank "java/lang/String" a D' u ∧ Same D D' [fV.slot, fC.slot] ∧ D'.slots[fV.slot]? = some (.ref s.heap.size) ∧ D'.slots[fC.slot]? = some (.int 0) ∧ Arr .byte s.heap.size V u ∧ V.vm = .none ∧ u.vm.findClass "[B" = some V.cls ∧ V.slots.size = len ∧ (∀ j, j < len → V.slots[j]? = some (.int (lo8 (cv A (o + j))))) ∧ (∀ (y : Addr) (c : Cell), y ≠ a → s.heap[y]? = some c → u.heap[y]? = some c) ∧ u.heap.size = s.heap.size + 1
theorem Got.mv {a : Addr} {D A : Cell} {fV fC : Field} {o len : Nat} : ∀ r (U U' V V' : State), U'.heap = U.heap → V.vm.Alike V'.vm → V'.heap = V.heap → Got a D fV fC A o len r U V → Got a D fV fC A o len r U' V' :=
  fun r U U' V V' h1 hal h2 ⟨e0, D', X, a1, a2, a3, a4, a5, a6, a7, a8, a9, a10, a11⟩ => ⟨e0, D', X, a1.mv hal h2, a2, by rw [h1]; exact a3, a4, by rw [h1]; exact a5.mv hal h2, a6, by rw [hal.findClass]; exact a7, a8, a9, by rw [h1, h2]; exact a10, by rw [h1, h2]; exact a11⟩
namespace New4
def yN : MethodName := ⟨"java/lang/String", "<init>", "([CIILjava/lang/Void;)V"⟩
abbrev yB : ByteArray := jdk_42_method_149_code
theorem d0 : decode yB 0 = .ok (.aload_n 0, 1) := by decide +kernel
theorem d1 : decode yB 1 = .ok (.invokespecial 1, 3) := by decide +kernel
theorem d4 : decode yB 4 = .ok (.iload_n 3, 1) := by decide +kernel
theorem d5 : decode yB 5 = .ok (.ifCond (.ne) 22, 3) := by decide +kernel
theorem d27 : decode yB 27 = .ok (.getstatic 38, 3) := by decide +kernel
theorem d30 : decode yB 30 = .ok (.ifCond (.eq) 28, 3) := by decide +kernel
theorem d33 : decode yB 33 = .ok (.aload_n 1, 1) := by decide +kernel
theorem d34 : decode yB 34 = .ok (.iload_n 2, 1) := by decide +kernel
theorem d35 : decode yB 35 = .ok (.iload_n 3, 1) := by decide +kernel
theorem d36 : decode yB 36 = .ok (.invokestatic 177, 3) := by decide +kernel
theorem d39 : decode yB 39 = .ok (.astore 5, 2) := by decide +kernel
theorem d41 : decode yB 41 = .ok (.aload_n 0, 1) := by decide +kernel
theorem d42 : decode yB 42 = .ok (.aload 5, 2) := by decide +kernel
theorem d44 : decode yB 44 = .ok (.iload_n 3, 1) := by decide +kernel
theorem d45 : decode yB 45 = .ok (.invokestatic 47, 3) := by decide +kernel
theorem d48 : decode yB 48 = .ok (.putfield 15, 3) := by decide +kernel
theorem d51 : decode yB 51 = .ok (.aload_n 0, 1) := by decide +kernel
theorem d52 : decode yB 52 = .ok (.aload 5, 2) := by decide +kernel
theorem d54 : decode yB 54 = .ok (.putfield 9, 3) := by decide +kernel
theorem d57 : decode yB 57 = .ok (.return_, 1) := by decide +kernel
def site : List Cond := [.fieldLink "java/lang/String" 38 "java/lang/String" "COMPACT_STRINGS" "Z", Cmp3.tab, CodL.tab, .laysFinal "java/lang/String" "java/lang/String" "value" "[B", .fieldLink "java/lang/String" 9 "java/lang/String" "value" "[B", .laysFinal "java/lang/String" "java/lang/String" "coder" "B", .fieldLink "java/lang/String" 15 "java/lang/String" "coder" "B"] ++ objW "java/lang/String" 1 ++ staticW "java/lang/String" 177 Cmp3.yN ++ staticW "java/lang/String" 47 CodL.yN
def tab : Cond := tabOf yN yB 6 none site
def P (a : Addr) (D : Cell) (fV fC : Field) (b : Addr) (A : Cell) (z : Int32) (o len : Nat) (args : Array Value) (s : State) : Prop := args = #[.ref a, .ref b, .int (Int32.ofNat o), .int (Int32.ofNat len), .null] ∧ Blank "java/lang/String" a D s ∧ Found "java/lang/String" "value" "[B" fV s ∧ Found "java/lang/String" "coder" "B" fC s ∧ Ch b A s ∧ StaticIs s "java/lang/String" "COMPACT_STRINGS" "Z" (.int z) ∧ ¬ z = 0 ∧ 0 < len ∧ o + len ≤ A.slots.size ∧ len ≤ 536870912 ∧ ∀ i, i < len → ¬ 255 < cv A (o + i)
def E (a : Addr) (D : Cell) (fV fC : Field) (A : Cell) (o len : Nat) (r : Option Value) (s u : State) : Prop := Got a D fV fC A o len r s u
/-- len > 0, no char of the range above 255: a Latin-1 String of their low bytes -/
theorem law (l : Launch) (a : Addr) (D : Cell) (fV fC : Field) (b : Addr) (A : Cell) (z : Int32) (o len : Nat) : Law l yN 5 4 2 35 yB 6 none site (P a D fV fC b A z o len) (E a D fV fC A o len) [⟨a, fC.slot⟩, ⟨a, fV.slot⟩] 1 len := by
  refine Law.of_walk (plainFor_of_name (by decide +kernel)) (by decide +kernel) (by decide +kernel) (by decide) (fun _ _ h => by rw [h.1]; rfl) (fun _ U U' hal hh h => ⟨h.1, h.2.1.mv hal hh, h.2.2.1.al hal, h.2.2.2.1.al hal, h.2.2.2.2.1.mv hal hh, h.2.2.2.2.2.1.there hal hh, h.2.2.2.2.2.2⟩) (fun r U U' V V' h1 hal h2 h => Got.mv r U U' V V' h1 hal h2 h) ?_
  intro p e s m args below meth c s₁ X0 hexec hbytes hml hret hlk hnm hown hh0 W hP
  obtain ⟨rfl, hB, f1, f2, hA, s1, hz, l0, l1, l2, hp⟩ := hP
  have a31 := hA.1.2.2.2
  have c1 : Steps p.tables e below (s₁.setTop (entryFrame m #[.ref a, .ref b, .int (Int32.ofNat o), .int (Int32.ofNat len), .null] 6)) (s₁.setTop (mkF m 0 #[.val (.ref a), .val (.ref b), .val (.int (Int32.ofNat o)), .val (.int (Int32.ofNat len)), .val .null, .unset] [])) := entry rfl
  have c2 : Steps p.tables e below (s₁.setTop (entryFrame m #[.ref a, .ref b, .int (Int32.ofNat o), .int (Int32.ofNat len), .null] 6)) (s₁.setTop (mkF m 1 #[.val (.ref a), .val (.ref b), .val (.int (Int32.ofNat o)), .val (.int (Int32.ofNat len)), .val .null, .unset] [.ref a])) := c1.trans (by
    refine XS.aloadN X0.here hexec rfl (hb hbytes d0) rfl rfl ?_
    exact Steps.refl _)
  obtain ⟨T3, X3, q3, st3⟩ := X0.oinit hexec hown (wks W (objW "java/lang/String" 1)) (g := (mkF m 1 #[.val (.ref a), .val (.ref b), .val (.int (Int32.ofNat o)), .val (.int (Int32.ofNat len)), .val .null, .unset] [.ref a])) rfl (by rw [hml]; rfl) (rest := []) rfl (hb hbytes d1) (W := 0) (by show 2 * 0 + 0 ≤ _; decide) (Nat.le_of_ble_eq_true rfl) (Nat.le_of_ble_eq_true rfl)
  have hh3 := q3.trans hh0
  have c4 : Steps p.tables e below (s₁.setTop (entryFrame m #[.ref a, .ref b, .int (Int32.ofNat o), .int (Int32.ofNat len), .null] 6)) (T3.setTop (mkF m 27 #[.val (.ref a), .val (.ref b), .val (.int (Int32.ofNat o)), .val (.int (Int32.ofNat len)), .val .null, .unset] [])) := (c2.trans (st3 _ (Steps.refl _))).trans (by
    refine XS.iloadN X3.here hexec rfl (hb hbytes d4) rfl ?_
    refine XS.ifYes X3.here hexec rfl (pc0 := 5) rfl (hb hbytes d5) rfl (i0_ne_t (nz32 (by omega) l0)) (by decide) rfl ?_
    exact Steps.refl _)
  obtain ⟨T5, X5, q5, st5⟩ := X3.sget hexec hown (wk W (.fieldLink "java/lang/String" 38 "java/lang/String" "COMPACT_STRINGS" "Z")) s1 (fun _ _ h => by rw [hh3]; exact h) (g := (mkF m 27 #[.val (.ref a), .val (.ref b), .val (.int (Int32.ofNat o)), .val (.int (Int32.ofNat len)), .val .null, .unset] [])) rfl (hb hbytes d27)
  have hh5 := q5.trans hh3
  have c6 : Steps p.tables e below (s₁.setTop (entryFrame m #[.ref a, .ref b, .int (Int32.ofNat o), .int (Int32.ofNat len), .null] 6)) (T5.setTop (mkF m 30 #[.val (.ref a), .val (.ref b), .val (.int (Int32.ofNat o)), .val (.int (Int32.ofNat len)), .val .null, .unset] [.int z])) := c4.trans (st5 _ (Steps.refl _))
  have c7 : Steps p.tables e below (s₁.setTop (entryFrame m #[.ref a, .ref b, .int (Int32.ofNat o), .int (Int32.ofNat len), .null] 6)) (T5.setTop (mkF m 36 #[.val (.ref a), .val (.ref b), .val (.int (Int32.ofNat o)), .val (.int (Int32.ofNat len)), .val .null, .unset] [.int (Int32.ofNat len), .int (Int32.ofNat o), .ref b])) := c6.trans (by
    refine XS.ifNo X5.here hexec rfl (hb hbytes d30) rfl (i0_eq_f hz) ?_
    refine XS.aloadN X5.here hexec rfl (hb hbytes d33) rfl rfl ?_
    refine XS.iloadN X5.here hexec rfl (hb hbytes d34) rfl ?_
    refine XS.iloadN X5.here hexec rfl (hb hbytes d35) rfl ?_
    exact Steps.refl _)
  obtain ⟨v8, T8, X8, E8, g8⟩ := X5.callS hexec (Cmp3.law l b A o len) hown (wks W (staticW "java/lang/String" 177 Cmp3.yN)) (wk W Cmp3.tab) (W := 0) (Nat.le_of_ble_eq_true rfl) (Nat.le_of_ble_eq_true rfl) (Nat.le_refl _) (by show 0 + len ≤ len; omega) (g := (mkF m 36 #[.val (.ref a), .val (.ref b), .val (.int (Int32.ofNat o)), .val (.int (Int32.ofNat len)), .val .null, .unset] [.int (Int32.ofNat len), .int (Int32.ofNat o), .ref b])) rfl (by rw [hml]; rfl) c7 (argsL := [.ref b, .int (Int32.ofNat o), .int (Int32.ofNat len)]) (rest := []) rfl rfl (by show 2 * 0 + 0 ≤ _; decide) (hb hbytes d36) (⟨rfl, hA.mv X5.warmed.alike hh5, l1, l2, hp⟩)
  obtain ⟨e8, z8⟩ := E8
  obtain ⟨rfl, N, n1, n2, n3, n4, n5, n6⟩ := NewArr.mv _ T5 s _ _ hh5.symm (Vm.Alike.refl _) rfl e8
  rw [hh5] at z8
  have hB1 := hB.keep X8.warmed.alike (n6 _ _ hB.1)
  have hne : s.heap.size ≠ a := (Nat.ne_of_lt (Array.getElem?_eq_some_iff.mp hB.1).1).symm
  have c9 : Steps p.tables e below (s₁.setTop (entryFrame m #[.ref a, .ref b, .int (Int32.ofNat o), .int (Int32.ofNat len), .null] 6)) (T8.setTop (mkF m 39 #[.val (.ref a), .val (.ref b), .val (.int (Int32.ofNat o)), .val (.int (Int32.ofNat len)), .val .null, .unset] [.ref s.heap.size])) := g8
  have c10 : Steps p.tables e below (s₁.setTop (entryFrame m #[.ref a, .ref b, .int (Int32.ofNat o), .int (Int32.ofNat len), .null] 6)) (T8.setTop (mkF m 45 #[.val (.ref a), .val (.ref b), .val (.int (Int32.ofNat o)), .val (.int (Int32.ofNat len)), .val .null, .val (.ref s.heap.size)] [.int (Int32.ofNat N.slots.size), .ref s.heap.size, .ref a])) := by
    have hc : Steps p.tables e below (s₁.setTop (entryFrame m #[.ref a, .ref b, .int (Int32.ofNat o), .int (Int32.ofNat len), .null] 6)) (T8.setTop (mkF m 45 #[.val (.ref a), .val (.ref b), .val (.int (Int32.ofNat o)), .val (.int (Int32.ofNat len)), .val .null, .val (.ref s.heap.size)] [.int (Int32.ofNat len), .ref s.heap.size, .ref a])) := c9.trans (by
      refine XS.astore X8.here hexec rfl (hb hbytes d39) rfl rfl rfl ?_
      refine XS.aloadN X8.here hexec rfl (hb hbytes d41) rfl rfl ?_
      refine XS.aload X8.here hexec rfl (hb hbytes d42) rfl rfl ?_
      refine XS.iloadN X8.here hexec rfl (hb hbytes d44) rfl ?_
      exact Steps.refl _)
    rw [n4]; exact hc
  obtain ⟨v11, T11, X11, E11, g11⟩ := X8.callS hexec (CodL.law l s.heap.size N) hown (wks W (staticW "java/lang/String" 47 CodL.yN)) (wk W CodL.tab) (W := 1) (Nat.le_of_ble_eq_true rfl) (Nat.le_of_ble_eq_true rfl) (Nat.le_refl _) (by show 0 + len + 0 ≤ len; omega) (g := (mkF m 45 #[.val (.ref a), .val (.ref b), .val (.int (Int32.ofNat o)), .val (.int (Int32.ofNat len)), .val .null, .val (.ref s.heap.size)] [.int (Int32.ofNat N.slots.size), .ref s.heap.size, .ref a])) rfl (by rw [hml]; rfl) c10 (argsL := [.ref s.heap.size, .int (Int32.ofNat N.slots.size)]) (rest := [.ref a]) rfl rfl (by show 2 * 0 + (1 + 0) ≤ _; decide) (hb hbytes d45) (⟨rfl, n1⟩)
  obtain ⟨rfl, q11⟩ := E11
  have hB11 := hB1.mv (X8.warmed.alike.symm.trans X11.warmed.alike) q11
  have c12 : Steps p.tables e below (s₁.setTop (entryFrame m #[.ref a, .ref b, .int (Int32.ofNat o), .int (Int32.ofNat len), .null] 6)) (T11.setTop (mkF m 48 #[.val (.ref a), .val (.ref b), .val (.int (Int32.ofNat o)), .val (.int (Int32.ofNat len)), .val .null, .val (.ref s.heap.size)] [.int 0, .ref a])) := g11
  obtain ⟨T13, X13, p13, bl13, sl13, st13⟩ := X11.finit hexec hown (wk W (.fieldLink "java/lang/String" 15 "java/lang/String" "coder" "B")) (Or.inr ⟨_, (wk W (.laysFinal "java/lang/String" "java/lang/String" "coder" "B"))⟩) (Or.inl ⟨rfl, hnm⟩) f2 (Or.inl rfl) hB11 (t := .byte) (by decide +kernel) rfl (g := (mkF m 48 #[.val (.ref a), .val (.ref b), .val (.int (Int32.ofNat o)), .val (.int (Int32.ofNat len)), .val .null, .val (.ref s.heap.size)] [.int 0, .ref a])) rfl (rest := []) rfl (hb hbytes d48)
  have c14 : Steps p.tables e below (s₁.setTop (entryFrame m #[.ref a, .ref b, .int (Int32.ofNat o), .int (Int32.ofNat len), .null] 6)) (T13.setTop (mkF m 54 #[.val (.ref a), .val (.ref b), .val (.int (Int32.ofNat o)), .val (.int (Int32.ofNat len)), .val .null, .val (.ref s.heap.size)] [.ref s.heap.size, .ref a])) := (c12.trans (st13 _ (Steps.refl _))).trans (by
    refine XS.aloadN X13.here hexec rfl (hb hbytes d51) rfl rfl ?_
    refine XS.aload X13.here hexec rfl (hb hbytes d52) rfl rfl ?_
    exact Steps.refl _)
  obtain ⟨T15, X15, p15, bl15, sl15, st15⟩ := X13.finit hexec hown (wk W (.fieldLink "java/lang/String" 9 "java/lang/String" "value" "[B")) (Or.inr ⟨_, (wk W (.laysFinal "java/lang/String" "java/lang/String" "value" "[B"))⟩) (Or.inl ⟨rfl, hnm⟩) f1 (Or.inl rfl) bl13 (t := (.array .byte)) (by decide +kernel) rfl (g := (mkF m 54 #[.val (.ref a), .val (.ref b), .val (.int (Int32.ofNat o)), .val (.int (Int32.ofNat len)), .val .null, .val (.ref s.heap.size)] [.ref s.heap.size, .ref a])) rfl (rest := []) rfl (hb hbytes d54)
  have c16 : Steps p.tables e below (s₁.setTop (entryFrame m #[.ref a, .ref b, .int (Int32.ofNat o), .int (Int32.ofNat len), .null] 6)) (T15.setTop (mkF m 57 #[.val (.ref a), .val (.ref b), .val (.int (Int32.ofNat o)), .val (.int (Int32.ofNat len)), .val .null, .val (.ref s.heap.size)] [])) := c14.trans (st15 _ (Steps.refl _))
  have ap := apart (Or.inr ⟨_, (wk W (.laysFinal "java/lang/String" "java/lang/String" "value" "[B"))⟩) (Or.inr ⟨_, (wk W (.laysFinal "java/lang/String" "java/lang/String" "coder" "B"))⟩) f1 f2 (t₁ := .array .byte) (t₂ := .byte) (by decide +kernel) (by decide +kernel) (by decide)
  have al := X8.warmed.alike.symm.trans X15.warmed.alike
  have n7 : T11.heap[s.heap.size]? = some N := by rw [q11]; exact n1.1
  exact ⟨T15, none, _, _, _, X15, by simp, rfl, by omega, (fun _ => rfl), ⟨rfl, _, N, bl15, ((Same.refl D _).set _ (by simp)).set _ (by simp), sl15, (Cell.slots_setSlot_ne _ ap).trans sl13, n1.keep al (p15.other hne (p13.other hne n7)), n2, by rw [al.findClass]; exact n3, n4, n5, fun y c h1 h2 => p15.other h1 (p13.other h1 (by rw [q11]; exact n6 y c h2)), by rw [p15.2.2, p13.2.2, q11]; exact z8⟩, fun fs hl => c16.trans (X15.returnOut hexec hret (hb hbytes d57) hl)⟩
end New4
namespace New1
def yN : MethodName := ⟨"java/lang/String", "<init>", "([C)V"⟩
abbrev yB : ByteArray := jdk_42_method_3_code
theorem d0 : decode yB 0 = .ok (.aload_n 0, 1) := by decide +kernel
theorem d1 : decode yB 1 = .ok (.aload_n 1, 1) := by decide +kernel
theorem d2 : decode yB 2 = .ok (.iconst 0, 1) := by decide +kernel
theorem d3 : decode yB 3 = .ok (.aload_n 1, 1) := by decide +kernel
theorem d4 : decode yB 4 = .ok (.arraylength, 1) := by decide +kernel
theorem d5 : decode yB 5 = .ok (.aconst_null, 1) := by decide +kernel
theorem d6 : decode yB 6 = .ok (.invokespecial 27, 3) := by decide +kernel
theorem d9 : decode yB 9 = .ok (.return_, 1) := by decide +kernel
def site : List Cond := [New4.tab] ++ initW "java/lang/String" 27 New4.yN
def tab : Cond := tabOf yN yB 2 none site
def P (a : Addr) (D : Cell) (fV fC : Field) (b : Addr) (A : Cell) (z : Int32) (args : Array Value) (s : State) : Prop := args = #[.ref a, .ref b] ∧ Blank "java/lang/String" a D s ∧ Found "java/lang/String" "value" "[B" fV s ∧ Found "java/lang/String" "coder" "B" fC s ∧ Ch b A s ∧ StaticIs s "java/lang/String" "COMPACT_STRINGS" "Z" (.int z) ∧ ¬ z = 0 ∧ 0 < A.slots.size ∧ A.slots.size ≤ 536870912 ∧ ∀ i, i < A.slots.size → ¬ 255 < cv A i
def E (a : Addr) (D : Cell) (fV fC : Field) (A : Cell) (r : Option Value) (s u : State) : Prop := Got a D fV fC A 0 A.slots.size r s u
/-- new String(chars), not empty, no char above 255: a Latin-1 String of their low bytes -/
theorem law (l : Launch) (a : Addr) (D : Cell) (fV fC : Field) (b : Addr) (A : Cell) (z : Int32) : Law l yN 2 1 3 52 yB 2 none site (P a D fV fC b A z) (E a D fV fC A) [⟨a, fC.slot⟩, ⟨a, fV.slot⟩] 1 A.slots.size := by
  refine Law.of_walk (plainFor_of_name (by decide +kernel)) (by decide +kernel) (by decide +kernel) (by decide) (fun _ _ h => by rw [h.1]; rfl) (fun _ U U' hal hh h => ⟨h.1, h.2.1.mv hal hh, h.2.2.1.al hal, h.2.2.2.1.al hal, h.2.2.2.2.1.mv hal hh, h.2.2.2.2.2.1.there hal hh, h.2.2.2.2.2.2⟩) (fun r U U' V V' h1 hal h2 h => Got.mv r U U' V V' h1 hal h2 h) ?_
  intro p e s m args below meth c s₁ X0 hexec hbytes hml hret hlk hnm hown hh0 W hP
  obtain ⟨rfl, hB, f1, f2, hA, s1, hz, l0, l2, hp⟩ := hP
  have c1 : Steps p.tables e below (s₁.setTop (entryFrame m #[.ref a, .ref b] 2)) (s₁.setTop (mkF m 0 #[.val (.ref a), .val (.ref b)] [])) := entry rfl
  have c2 : Steps p.tables e below (s₁.setTop (entryFrame m #[.ref a, .ref b] 2)) (s₁.setTop (mkF m 6 #[.val (.ref a), .val (.ref b)] [.null, .int (Int32.ofNat A.slots.size), .int 0, .ref b, .ref a])) := c1.trans (by
    refine XS.aloadN X0.here hexec rfl (hb hbytes d0) rfl rfl ?_
    refine XS.aloadN X0.here hexec rfl (hb hbytes d1) rfl rfl ?_
    refine iconstV X0.here hexec rfl 0 (hb hbytes d2) (by decide) ?_
    refine XS.aloadN X0.here hexec rfl (hb hbytes d3) rfl rfl ?_
    refine X0.alen hexec (hA.1.mv X0.warmed.alike hh0) rfl rfl (hb hbytes d4) ?_
    refine XS.aconstNull X0.here hexec rfl (hb hbytes d5) ?_
    exact Steps.refl _)
  obtain ⟨v3, T3, X3, E3, g3⟩ := X0.callN hexec (New4.law l a D fV fC b A z 0 A.slots.size) rfl hown (wks W (initW "java/lang/String" 27 New4.yN)) (W New4.tab (by simp only [site, List.mem_cons, List.mem_append, true_or, or_true])) (W := 0) (Nat.le_of_ble_eq_true rfl) (Nat.le_of_ble_eq_true rfl) (Nat.le_refl _) (by show 0 + A.slots.size ≤ A.slots.size; omega) (g := (mkF m 6 #[.val (.ref a), .val (.ref b)] [.null, .int (Int32.ofNat A.slots.size), .int (Int32.ofNat 0), .ref b, .ref a])) rfl (by rw [hml]; rfl) c2 (argsL := [.ref b, .int (Int32.ofNat 0), .int (Int32.ofNat A.slots.size), .null]) (rest := []) rfl rfl (by show 2 * 0 + 0 ≤ _; decide) (hb hbytes d6) (⟨rfl, hB.mv X0.warmed.alike hh0, f1.al X0.warmed.alike, f2.al X0.warmed.alike, hA.mv X0.warmed.alike hh0, s1.there X0.warmed.alike hh0, hz, l0, by omega, l2, fun i hi => by rw [Nat.zero_add]; exact hp i hi⟩)
  have e0 := Got.mv _ s₁ s _ _ hh0.symm (Vm.Alike.refl _) rfl E3
  obtain rfl := e0.1
  have c4 : Steps p.tables e below (s₁.setTop (entryFrame m #[.ref a, .ref b] 2)) (T3.setTop (mkF m 9 #[.val (.ref a), .val (.ref b)] [])) := g3
  exact ⟨T3, none, _, _, _, X3, by simp, rfl, by omega, (fun _ => rfl), e0, fun fs hl => c4.trans (X3.returnOut hexec hret (hb hbytes d9) hl)⟩
theorem pays {l : Launch} {R : Room} {p : Program} {e : Env} {below : List Frame} {s : State} {sargs : Array Value} {len W : Nat} (a : Addr) (D : Cell) (fV fC : Field) (b : Addr) (A : Cell) (z : Int32) (htab : tab.before sargs s = true) (hfr : 4 ≤ R.frames) (hlo : W + 65 ≤ R.locals) :
    Back l R p e below s sargs yN len W (fun A₁ a₁ => A₁.cells + 1 ≤ R.cells ∧ A₁.slots + A.slots.size ≤ R.slots ∧ P a D fV fC b A z a₁ A₁.U) (fun A₁ _ v₁ B₁ => E a D fV fC A v₁ A₁.U B₁.U ∧ B₁.locs = A₁.locs ++ [⟨a, fC.slot⟩, ⟨a, fV.slot⟩] ∧ B₁.cells = A₁.cells + 1 ∧ B₁.slots = A₁.slots + A.slots.size) :=
  (law l a D fV fC b A z).pays htab hfr (by omega)
end New1
/-- the byte, read back as charAt reads it, is the char -/
theorem lo8_mask {x : Int32} (h0 : ¬ x < 0) (h1 : ¬ 255 < x) : lo8 x &&& 255 = x := by
  have t : ∀ k : Fin 256, lo8 (Int32.ofNat k.val) &&& 255 = Int32.ofNat k.val := by decide +kernel
  rw [Int32.lt_iff_toInt_lt] at h0 h1
  have e0 : (0 : Int32).toInt = 0 := rfl
  have e1 : (255 : Int32).toInt = 255 := rfl
  obtain ⟨k, hk⟩ : ∃ k : Nat, x.toInt = k := ⟨x.toInt.toNat, by omega⟩
  have hx : x = Int32.ofNat k := Int32.toInt_inj.mp (by rw [hk, Int32.toInt_ofNat_small (by omega)])
  rw [hx]
  exact t ⟨k, by omega⟩
end StrChars
namespace StrChars.Road
open Jvm Sem ClassFile Op Lib Jvm.Stand Jvm.Free Jvm.Free.XT
open Jvm.Lib.Cold (StaticIs)
abbrev ST : String := "java/lang/String"
/-- every table word that New1's law asks, flat -/
abbrev words : List Jvm.Cond := [.code New1.yN New1.yB 2 none, .initialized ST, .methodLink ST 27 New4.yN, .instanceMethod New4.yN,
  .code New4.yN New4.yB 6 none, .fieldLink ST 38 ST "COMPACT_STRINGS" "Z", .laysFinal ST ST "value" "[B", .fieldLink ST 9 ST "value" "[B", .laysFinal ST ST "coder" "B", .fieldLink ST 15 ST "coder" "B",
  .methodLink ST 1 Lib.objectInit, .instanceMethod Lib.objectInit, .code Lib.objectInit ⟨#[0xb1]⟩ 1 none, .methodLink ST 177 Cmp3.yN, .static Cmp3.yN, .methodLink ST 47 CodL.yN, .static CodL.yN,
  .code Cmp3.yN Cmp3.yB 6 (some (.array .byte)), .initialized U16, .arrayClass .byte, .methodLink U16 115 Cmp5.yN, .static Cmp5.yN, .code Cmp5.yN Cmp5.yB 7 (some .int), .code CodL.yN CodL.yB 2 (some .byte)]
theorem tab_of {a : Array Value} {s : State} (h : ∀ w ∈ words, w.before a s = true) : New1.tab.before a s = true := by
  have h5 : Cmp5.tab.before a s = true := unparts (wk h (.code Cmp5.yN Cmp5.yB 7 (some .int))) (wks h (.initialized Cmp5.yN.cls :: Cmp5.site))
  have hc : CodL.tab.before a s = true := unparts (wk h (.code CodL.yN CodL.yB 2 (some .byte))) (wks h (.initialized CodL.yN.cls :: CodL.site))
  have q5 : ∀ w ∈ Cmp5.tab :: words, w.before a s = true := fun w hw => (List.mem_cons.mp hw).elim (fun e => e ▸ h5) (h w)
  have h3 : Cmp3.tab.before a s = true := unparts (wk q5 (.code Cmp3.yN Cmp3.yB 6 (some (.array .byte)))) (wks q5 (.initialized Cmp3.yN.cls :: Cmp3.site))
  have q3 : ∀ w ∈ Cmp3.tab :: CodL.tab :: words, w.before a s = true := fun w hw => (List.mem_cons.mp hw).elim (fun e => e ▸ h3) fun hw => (List.mem_cons.mp hw).elim (fun e => e ▸ hc) (h w)
  have h4 : New4.tab.before a s = true := unparts (wk q3 (.code New4.yN New4.yB 6 none)) (wks q3 (.initialized New4.yN.cls :: New4.site))
  have q4 : ∀ w ∈ New4.tab :: words, w.before a s = true := fun w hw => (List.mem_cons.mp hw).elim (fun e => e ▸ h4) (h w)
  exact unparts (wk q4 (.code New1.yN New1.yB 2 none)) (wks q4 (.initialized New1.yN.cls :: New1.site))
/-- the words ride from the start Z to the walk's own state -/
theorem moved {Z s : State} {a0 args : Array Value} (hZ : Z.Warmed39 s.vm) (hw : ∀ d ∈ words, d.before a0 Z = true) : ∀ d ∈ words, d.before args s = true := fun d hd => by
  have q := hw d hd
  have t : ∀ d ∈ words, d = .arrayClass .byte ∨ (d.onTables && d.keepsFace) = true := by decide +kernel
  rcases t d hd with rfl | t
  · exact RoadKit.mvA hZ q
  · exact RoadKit.mv hZ q t
/-- WHAT COMES BACK, over the tables of the start Z: h the heap at the call, h' behind it -/
def Q (Z : State) (x : Addr) (A : Cell) (h : Heap) (v : Option Value) (h' : Heap) (L : List Loc) : Prop := v = none ∧ (∀ y ∈ L, y.base = x) ∧ RoadKit.Keep h h' [x] ∧ h'.size = h.size + 1 ∧ RoadKit.Exa Z h' x ST ∧ RoadKit.Fld Z h' x ST "value" "[B" (.ref h.size) ∧ RoadKit.Fld Z h' x ST "coder" "B" (.int 0) ∧
  (∃ V : Cell, RoadKit.Arr Z h' h.size V .byte ∧ V.vm = .none ∧ Z.vm.findClass "[B" = some V.cls ∧ V.slots.size = A.slots.size ∧ ∀ j, j < A.slots.size → V.slots[j]? = some (.int (lo8 (cv A j)))) ∧
  ∀ (O n d : String) (w : Value), RoadKit.Fld Z h x O n d w → RoadKit.slotOf Z O n d ≠ RoadKit.slotOf Z ST "value" "[B" → RoadKit.slotOf Z O n d ≠ RoadKit.slotOf Z ST "coder" "B" → RoadKit.Fld Z h' x O n d w
/-- **new String(chars) AT A CALL, IN THE ROAD'S FORM**: for specialBack behind newO: x the fresh String, b the char[] with the cell A -/
theorem back {p : Program} {l : Launch} {e : Env} {R : Room} {s : State} {args : Array Value} {below : List Frame} {len W : Nat} {Z : State} {a0 : Array Value} {h : Heap} (hZ : Z.Warmed39 s.vm) (hw : ∀ d ∈ words, d.before a0 Z = true) {kI : Nat} (wi : (Jvm.Cond.instantiable ST kI).before a0 Z = true)
    {x b : Addr} {A : Cell} {z : Int32} {v0 c0 : Value} (E : RoadKit.Exa Z h x ST) (V : RoadKit.Fld Z h x ST "value" "[B" v0) (C : RoadKit.Fld Z h x ST "coder" "B" c0) (K : RoadKit.Arr Z h b A .char) (hty : Typed .char A) (S : RoadKit.Sta Z h ST "COMPACT_STRINGS" "Z" (.int z)) (hz : ¬ z = 0)
    (l0 : 0 < A.slots.size) (l2 : A.slots.size ≤ 536870912) (hp : ∀ i, i < A.slots.size → ¬ 255 < cv A i) (hfr : 4 ≤ R.frames) (hlo : W + 65 ≤ R.locals) :
    Back l R p e below s args New1.yN len W (fun P a => a = #[.ref x, .ref b] ∧ P.U.heap = h ∧ P.cells + 1 ≤ R.cells ∧ P.slots + A.slots.size ≤ R.slots)
      (fun P _ v B => ∃ L, Q Z x A h v B.U.heap L ∧ B.locs = P.locs ++ L ∧ B.cells = P.cells + 1 ∧ B.slots = P.slots + A.slots.size) := by
  intro m meth c P g ig mk a X hg hsize hdg hW hn hp'
  obtain ⟨rfl, rfl, r1, r2⟩ := hp'
  have al : Z.vm.Alike P.U.vm := hZ.alike.trans X.warmed.alike
  obtain ⟨D, cfV, kV, iV, fV, hD, gV, stV, knV, obV, asV, slV⟩ := id V
  obtain ⟨D', cfC, kC, iC, fC, hD', gC, stC, -, -, asC, slC⟩ := id C
  cases hD.symm.trans hD'
  obtain ⟨D2, kD, e1, e2, e3, e4, e5⟩ := id E
  cases hD.symm.trans e1
  obtain ⟨c2, k2, i1, i2, i3, -⟩ := Cond.instantiable_spec wi
  cases e2.symm.trans i1
  cases e3.symm.trans i2
  obtain ⟨kU, u1, u2⟩ := al.2.2 _ _ e3
  have hB : Blank ST x D P.U := ⟨hD, ⟨knV, fun q hq => by rw [hq] at obV; cases obV⟩, by rw [al.findClass]; exact e2, kU, u1, by rw [u2]; exact i3, by rw [u2]; exact e5 i3⟩
  have F1 : Found ST "value" "[B" fV P.U := ⟨SBG.found_only al ⟨cfV, kV, iV, gV⟩, stV⟩
  have F2 : Found ST "coder" "B" fC P.U := ⟨SBG.found_only al ⟨cfC, kC, iC, gC⟩, stC⟩
  have hA : Ch b A P.U := ⟨⟨K.1, State.isArrayOf_alike al K.2.1, K.2.2, by omega⟩, hty⟩
  have hS : StaticIs P.U ST "COMPACT_STRINGS" "Z" (.int z) := by
    obtain ⟨cfS, iS, kS, fS, st, cS, t1, t2, t3, t4, t5, t6, t7⟩ := S
    exact StaticIs.there (s := { Z with heap := P.U.heap }) ⟨cfS, iS, kS, fS, st, cS, t1, t2, t3, t4, t5, (fun q => by rw [q] at t6; cases t6), t7⟩ al rfl
  obtain ⟨v, B, X', ⟨⟨hv, E', V', q1, q2, q3, q4, q5, q6, q7, q8, q9, q10, q11⟩, hl, hc, hs⟩, st⟩ := New1.pays x D fV fC b A z (tab_of (moved hZ hw)) hfr hlo m meth c P g ig mk _ X hg hsize hdg hW hn ⟨r1, r2, rfl, hB, F1, F2, hA, hS, hz, l0, l2, hp⟩
  have al' : Z.vm.Alike B.U.vm := hZ.alike.trans X'.warmed.alike
  have hsz : E'.slots.size = D.slots.size := by
    obtain ⟨-, -, -, kB, w1, w2, w3⟩ := q1
    obtain ⟨kB', y1, y2⟩ := al'.2.2 _ _ e3
    rw [q2.2.1] at w1
    cases w1.symm.trans y1
    rw [w3, e5 i3, y2]
  refine ⟨v, B, X', ⟨_, ⟨hv, ?_, ⟨by omega, fun y cy hy hn' => q10 y cy (by simpa using hn') hy, fun y cy hy => ?_⟩, q11, ⟨E', _, q1.1, by rw [q2.2.1]; exact e2, by rw [q2.2.1]; exact e3, by rw [q2.1]; exact obV, fun _ => by rw [hsz]; exact e5 i3⟩,
    ⟨E', cfV, kV, iV, fV, q1.1, gV, stV, by rw [q2.1]; exact knV, by rw [q2.1]; exact obV, by rw [q2.2.1]; exact asV, q3⟩, ⟨E', cfC, kC, iC, fC, q1.1, gC, stC, by rw [q2.1]; exact knV, by rw [q2.1]; exact obV, by rw [q2.2.1]; exact asC, q4⟩,
    ⟨V', ⟨q5.1, State.isArrayOf_alike al'.symm q5.2.1, q5.2.2.1⟩, q6, by rw [← al'.findClass]; exact q7, q8, fun j hj => by have := q9 j hj; rwa [Nat.zero_add] at this⟩, fun O n d w F n1 n2 => ?_⟩, hl, hc, hs⟩, st⟩
  · intro y hy
    simp only [List.mem_cons, List.not_mem_nil, or_false] at hy
    rcases hy with rfl | rfl <;> rfl
  · by_cases q : y = x
    · subst q
      cases hD.symm.trans hy
      exact ⟨E', q1.1, q2.2.1, q2.1, hsz⟩
    · exact ⟨cy, q10 y cy q hy, rfl, rfl, rfl⟩
  · obtain ⟨D3, cf, k, i, f, g1, g2, g3, g4, g5, g6, g7⟩ := F
    cases hD.symm.trans g1
    simp only [RoadKit.slotOf, g2, gV, gC, Option.map_some, Option.getD_some] at n1 n2
    exact ⟨E', cf, k, i, f, q1.1, g2, g3, by rw [q2.1]; exact g4, by rw [q2.1]; exact g5, by rw [q2.2.1]; exact g6, by rw [q2.2.2 f.slot (by simp [n1, n2])]; exact g7⟩
end StrChars.Road
namespace StrChars.Road
open Jvm Sem ClassFile Op Lib Jvm.Stand Jvm.Free Jvm.Free.XT
/-- WHAT COMES BACK, the byte[] as a list of values -/
def QA (Z : State) (x : Addr) (zn : Int32) (cs : List Int32) (h : Heap) (v : Option Value) (h' : Heap) (L : List Loc) : Prop := v = none ∧ (∀ y ∈ L, y.base = x) ∧ RoadKit.Keep h h' [x] ∧ h'.size = h.size + 1 ∧ RoadKit.Exa Z h' x ST ∧ RoadKit.Fld Z h' x ST "value" "[B" (.ref h.size) ∧ RoadKit.Fld Z h' x ST "coder" "B" (.int 0) ∧
  (∃ kb, Z.vm.findClass "[B" = some kb ∧ RoadKit.Arv Z h' h.size kb .byte zn (cs.map fun c => .int (lo8 c)) (.int 0)) ∧
  ∀ (O n d : String) (w : Value), RoadKit.Fld Z h x O n d w → RoadKit.slotOf Z O n d ≠ RoadKit.slotOf Z ST "value" "[B" → RoadKit.slotOf Z O n d ≠ RoadKit.slotOf Z ST "coder" "B" → RoadKit.Fld Z h' x O n d w
/-- **new String(chars) AT A CALL, THE ARRAYS AS LISTS**: the char[] at b holds cs, not empty, no char above 255 -/
theorem backArv {p : Program} {l : Launch} {e : Env} {R : Room} {s : State} {args : Array Value} {below : List Frame} {len W : Nat} {Z : State} {a0 : Array Value} {h : Heap} (hZ : Z.Warmed39 s.vm) (hw : ∀ d ∈ words, d.before a0 Z = true) {kI : Nat} (wi : (Jvm.Cond.instantiable ST kI).before a0 Z = true)
    {x b : Addr} {k : ClassId} {zn z : Int32} {cs : List Int32} {dv v0 c0 : Value} (E : RoadKit.Exa Z h x ST) (V : RoadKit.Fld Z h x ST "value" "[B" v0) (C : RoadKit.Fld Z h x ST "coder" "B" c0) (K : RoadKit.Arv Z h b k .char zn (cs.map Value.int) dv) (S : RoadKit.Sta Z h ST "COMPACT_STRINGS" "Z" (.int z)) (hz : ¬ z = 0)
    (hlen : zn.toNatClampNeg = cs.length) (h0 : 0 < cs.length) (hbig : cs.length ≤ 536870912) (hall : ∀ c ∈ cs, ¬ 255 < c) (hfr : 4 ≤ R.frames) (hlo : W + 65 ≤ R.locals) :
    Back l R p e below s args New1.yN len W (fun P a => a = #[.ref x, .ref b] ∧ P.U.heap = h ∧ P.cells + 1 ≤ R.cells ∧ P.slots + cs.length ≤ R.slots)
      (fun P _ v B => ∃ L, QA Z x zn cs h v B.U.heap L ∧ B.locs = P.locs ++ L ∧ B.cells = P.cells + 1 ∧ B.slots = P.slots + cs.length) := by
  obtain ⟨A, K1, K2, K3, K4, K5, K6⟩ := K
  have e : A.slots.size = cs.length := K3.trans hlen
  have hat : ∀ (i : Nat) (hi : i < cs.length), A.slots[i]? = some (.int cs[i]) := fun i hi => by rw [K5 i (by omega)]; simp [List.getD_eq_getElem?_getD, hi]
  have hcv : ∀ (i : Nat) (hi : i < cs.length), cv A i = cs[i] := fun i hi => by unfold cv; rw [hat i hi]
  have hty : Typed .char A := fun i v hv => by
    have hi : i < A.slots.size := (Array.getElem?_eq_some_iff.mp hv).1
    have q := K5 i hi
    rw [hv] at q
    rw [Option.some.inj q]
    exact K6 i hi
  refine Back.mono (back hZ hw wi E V C K1 hty S hz (by omega) (by omega) (fun i hi => by rw [hcv i (by omega)]; exact hall _ (List.getElem_mem _)) hfr hlo) (fun P a hp => ⟨hp.1, hp.2.1, hp.2.2.1, by rw [e]; exact hp.2.2.2⟩) (fun P a v B hp hq => ?_)
  obtain ⟨L, ⟨q1, q2, q3, q4, q5, q6, q7, ⟨V', v1, v2, v3, v4, v5⟩, q9⟩, hl, hc, hs⟩ := hq
  refine ⟨L, ⟨q1, q2, q3, q4, q5, q6, q7, ⟨V'.cls, v3, V', v1, rfl, by rw [v4, e, hlen], K4, fun i hi => ?_, fun i hi => ?_⟩, q9⟩, hl, hc, by rw [hs, e]⟩
  · have hi' : i < cs.length := by omega
    rw [v5 i (by omega), hcv i hi']; simp [List.getD_eq_getElem?_getD, hi']
  · have hi' : i < cs.length := by omega
    simp only [List.getD_eq_getElem?_getD, List.getElem?_map, List.getElem?_eq_getElem hi', Option.map_some, Option.getD_some]
    exact fits_lo8 _
end StrChars.Road
namespace StrChars.Road
open Jvm Sem ClassFile Op Lib Jvm.Stand Jvm.Free Jvm.Free.XT
/-- WHAT COMES BACK, in the writer's own shape -/
def QV (Z : State) (x : Addr) (N : Int32) (bs : List Int32) (h : Heap) (n0 : Nat) (v : Option Value) (h' : Heap) (L : List Loc) : Prop := v = none ∧ RoadKit.Fr n0 L ∧ RoadKit.Keep h h' [x] ∧ RoadKit.Exa Z h' x ST ∧ RoadKit.Fld Z h' x ST "coder" "B" (.int 0) ∧
  ∃ (t : Addr) (kb : ClassId), n0 ≤ t ∧ h.size ≤ t ∧ ¬ t = x ∧ RoadKit.Fld Z h' x ST "value" "[B" (.ref t) ∧ RoadKit.Arv Z h' t kb .byte N (bs.map Value.int) (.int 0)
/-- **new String(chars) AT A CALL, FOR THE WRITER**: a char[] of n known ints, each 0 to 255 -/
theorem backV {p : Program} {l : Launch} {e : Env} {R : Room} {s : State} {args : Array Value} {below : List Frame} {len W : Nat} {Z : State} {a0 : Array Value} {h : Heap} (hZ : Z.Warmed39 s.vm) (hw : ∀ d ∈ words, d.before a0 Z = true) {kI : Nat} (wi : (Jvm.Cond.instantiable ST kI).before a0 Z = true)
    {x b : Addr} {kC : ClassId} {cs bs : List Int32} {d v0 c0 : Value} {z N : Int32} {n n0 : Nat} (hx0 : n0 ≤ x) (hh0 : n0 ≤ h.size) (E : RoadKit.Exa Z h x ST) (V : RoadKit.Fld Z h x ST "value" "[B" v0) (C : RoadKit.Fld Z h x ST "coder" "B" c0) (K : RoadKit.Arv Z h b kC .char N (cs.map Value.int) d) (S : RoadKit.Sta Z h ST "COMPACT_STRINGS" "Z" (.int z)) (hz : ¬ z = 0)
    (hn : cs.length = n) (hN : N = Int32.ofNat n) (l0 : 0 < n) (l2 : n ≤ 4000) (hp : ∀ c ∈ cs, ¬ c < 0 ∧ ¬ (255 : Int32) < c) (hb : bs = cs.map (fun c => c.toInt8.toInt32)) (hfr : 4 ≤ R.frames) (hlo : W + 65 ≤ R.locals) :
    Back l R p e below s args (⟨"java/lang/String", "<init>", "([C)V"⟩ : MethodName) len W (fun P a => a = #[.ref x, .ref b] ∧ P.U.heap = h ∧ P.cells + 1 ≤ R.cells ∧ P.slots + n ≤ R.slots)
      (fun P _ v B => ∃ L, QV Z x N bs h n0 v B.U.heap L ∧ B.locs = P.locs ++ L ∧ B.cells = P.cells + 1 ∧ B.slots = P.slots + n) := by
  subst hn hN hb
  refine Back.mono (backArv hZ hw wi E V C K S hz (n32 (by omega)) l0 (by omega) (fun c hc => (hp c hc).2) hfr hlo) (fun P a hp => hp) (fun P a v B hp hq => ?_)
  obtain ⟨L, ⟨q1, q2, q3, q4, q5, q6, q7, ⟨kb, v1, v2⟩, q9⟩, hl, hc, hs⟩ := hq
  exact ⟨L, ⟨q1, fun y hy => by rw [q2 y hy]; exact hx0, q3, q5, q7, h.size, kb, hh0, Nat.le_refl _, Nat.ne_of_gt E.lt, q6, by rw [List.map_map]; exact v2⟩, hl, hc, hs⟩
end StrChars.Road
namespace StrChars
open Jvm Sem ClassFile Op Lib Jvm.Stand Jvm.Free.XT Jvm.Free.ALB Jvm.Free.JM Jvm.Free
open Jvm.Lib.Cold (StaticIs)
def hi8 (x : Int32) : Int32 := lo8 (x >>> ((8 : Int32) &&& 31))
/-- what StringUTF16.getChar makes of two bytes -/
def pairCh (u v : Int32) : Int32 := (((u &&& 255) <<< ((0 : Int32) &&& 31)) ||| ((v &&& 255) <<< ((8 : Int32) &&& 31))).toUInt32.toUInt16.toUInt32.toInt32
theorem shr0 (c : Int32) : c >>> ((0 : Int32) &&& 31) = c := by
  have e : ((0 : Int32) &&& 31) = 0 := by decide
  rw [e]
  apply Int32.toBitVec_inj.mp
  rw [Int32.toBitVec_shiftRight]
  have e1 : ((0 : Int32).toBitVec.smod 32) = 0#32 := by decide
  rw [e1, BitVec.sshiftRight_eq']
  exact BitVec.sshiftRight_zero
theorem lo8_and (x : Int32) : (lo8 x &&& 255).toBitVec.toNat = x.toBitVec.toNat % 256 := by
  have h : (lo8 x).toBitVec = (x.toBitVec.signExtend 8).signExtend 32 := by rw [lo8, Int8.toBitVec_toInt32, Int32.toBitVec_toInt8]
  rw [Int32.toBitVec_and, BitVec.toNat_and, h]
  have e : ((x.toBitVec.signExtend 8).signExtend 32).toNat % 256 = x.toBitVec.toNat % 256 := by
    rw [BitVec.toNat_signExtend]
    have hlt := x.toBitVec.isLt
    simp only [BitVec.toNat_setWidth, BitVec.toNat_signExtend]
    split <;> split <;> omega
  rw [← e]
  exact Nat.and_two_pow_sub_one_eq_mod _ 8
theorem pair_says {c : Int32} (h0 : ¬ c < 0) (h1 : ¬ 65535 < c) : pairCh (lo8 c) (hi8 c) = c := by
  rw [Int32.lt_iff_toInt_lt] at h0 h1
  have e0 : (0 : Int32).toInt = 0 := rfl
  have e1 : (65535 : Int32).toInt = 65535 := rfl
  have hc : c.toInt = c.toBitVec.toNat := by
    have := c.toBitVec.isLt
    have e : c.toInt = c.toBitVec.toInt := rfl
    rw [e] at h0 h1
    rw [e]
    rw [BitVec.toInt_eq_toNat_cond] at h0 h1 ⊢
    split at h0 <;> split <;> omega
  have hn : c.toBitVec.toNat < 65536 := by omega
  have a1 := lo8_and c
  have a2 : (hi8 c &&& 255).toBitVec.toNat = c.toBitVec.toNat / 256 := by
    rw [hi8, lo8_and]
    have e : ((8 : Int32) &&& 31) = 8 := by decide
    rw [e, Int32.toBitVec_shiftRight]
    have e2 : ((8 : Int32).toBitVec.smod 32) = 8#32 := by decide
    rw [e2, BitVec.sshiftRight_eq', BitVec.toNat_sshiftRight_of_msb_false (by rw [BitVec.msb_eq_false_iff_two_mul_lt]; omega)]
    show c.toBitVec.toNat >>> 8 % 256 = _
    rw [Nat.shiftRight_eq_div_pow]
    omega
  unfold pairCh
  apply Int32.toBitVec_inj.mp
  apply BitVec.eq_of_toNat_eq
  have f0 : ((0 : Int32) &&& 31) = 0 := by decide
  have f8 : ((8 : Int32) &&& 31) = 8 := by decide
  rw [f0, f8]
  have g : (((lo8 c &&& 255) <<< (0 : Int32)) ||| ((hi8 c &&& 255) <<< (8 : Int32))).toBitVec.toNat = c.toBitVec.toNat := by
    rw [Int32.toBitVec_or, Int32.toBitVec_shiftLeft, Int32.toBitVec_shiftLeft]
    have s0 : ((0 : Int32).toBitVec.smod 32) = 0#32 := by decide
    have s8 : ((8 : Int32).toBitVec.smod 32) = 8#32 := by decide
    rw [s0, s8, BitVec.toNat_or]
    simp only [BitVec.shiftLeft_eq', BitVec.toNat_shiftLeft, a1, a2]
    show (c.toBitVec.toNat % 256) <<< 0 % 2 ^ 32 ||| (c.toBitVec.toNat / 256) <<< 8 % 2 ^ 32 = _
    rw [Nat.shiftLeft_zero, Nat.mod_eq_of_lt (show c.toBitVec.toNat % 256 < 2 ^ 32 by omega), Nat.mod_eq_of_lt (show (c.toBitVec.toNat / 256) <<< 8 < 2 ^ 32 by rw [Nat.shiftLeft_eq]; omega), Nat.or_comm, ← Nat.shiftLeft_add_eq_or_of_lt (by omega), Nat.shiftLeft_eq]
    omega
  show BitVec.toNat (((((lo8 c &&& 255) <<< (0 : Int32)) ||| ((hi8 c &&& 255) <<< (8 : Int32))).toBitVec.setWidth 16).setWidth 32) = _
  rw [BitVec.toNat_setWidth, BitVec.toNat_setWidth, g]
  omega
end StrChars
namespace StrChars
open Jvm Sem ClassFile Op Lib Jvm.Stand Jvm.Free.XT Jvm.Free.ALB Jvm.Free.JM Jvm.Free
open Jvm.Lib.Cold (StaticIs)
theorem shr1 {n : Nat} (h : 2 * n < 2 ^ 31) : Int32.ofNat (2 * n) >>> ((1 : Int32) &&& 31) = Int32.ofNat n := by
  have e : ((1 : Int32) &&& 31) = 1 := by decide
  rw [e]
  apply Int32.toBitVec_inj.mp
  rw [Int32.toBitVec_shiftRight]
  have e1 : ((1 : Int32).toBitVec.smod 32) = 1#32 := by decide
  have hm : (BitVec.ofNat 32 (2 * n)).toNat = 2 * n := by rw [BitVec.toNat_ofNat, Nat.mod_eq_of_lt (by omega)]
  rw [e1, BitVec.sshiftRight_eq']
  apply BitVec.eq_of_toNat_eq
  show ((BitVec.ofNat 32 (2 * n)).sshiftRight 1).toNat = (BitVec.ofNat 32 n).toNat
  rw [BitVec.toNat_sshiftRight_of_msb_false (by rw [BitVec.msb_eq_false_iff_two_mul_lt, hm]; omega), hm, BitVec.toNat_ofNat, Nat.shiftRight_eq_div_pow]
  omega
/-- charAt's cast of a byte read back -/
def chr8 (u : Int32) : Int32 := (u &&& 255).toUInt32.toUInt16.toUInt32.toInt32
theorem chr8_lo8 {c : Int32} (h0 : ¬ c < 0) (h1 : ¬ 255 < c) : chr8 (lo8 c) = c := by
  have t : ∀ k : Fin 256, (Int32.ofNat k.val).toUInt32.toUInt16.toUInt32.toInt32 = Int32.ofNat k.val := by decide +kernel
  unfold chr8
  rw [lo8_mask h0 h1]
  rw [Int32.lt_iff_toInt_lt] at h0 h1
  have e0 : (0 : Int32).toInt = 0 := rfl
  have e1 : (255 : Int32).toInt = 255 := rfl
  obtain ⟨k, hk⟩ : ∃ k : Nat, c.toInt = k := ⟨c.toInt.toNat, by omega⟩
  have hx : c = Int32.ofNat k := Int32.toInt_inj.mp (by rw [hk, Int32.toInt_ofNat_small (by omega)])
  rw [hx]
  exact t ⟨k, by omega⟩
theorem narrow_ch {c : Int32} (h0 : ¬ c < 0) (h1 : ¬ 65535 < c) : narrow .char (.int c) = .int c := by
  have q : narrow .char (.int (pairCh (lo8 c) (hi8 c))) = .int (pairCh (lo8 c) (hi8 c)) := narrow_c _
  rwa [pair_says h0 h1] at q
/-- the array's cell V codes the n chars f 0 .. f (n - 1) by the coder cd, as the JDK does: coder 1 just where some char is above 255 -/
def Cod (cd : Int32) (n : Nat) (f : Nat → Int32) (V : Cell) : Prop := (cd = 0 ∧ V.slots.size = n ∧ ∀ j, j < n → V.slots[j]? = some (.int (lo8 (f j))) ∧ ¬ 255 < f j) ∨ (cd = 1 ∧ V.slots.size = 2 * n ∧ (∀ j, j < n → V.slots[2 * j]? = some (.int (lo8 (f j))) ∧ V.slots[2 * j + 1]? = some (.int (hi8 (f j)))) ∧ ∃ j, j < n ∧ 255 < f j)
theorem Cod.cd {cd : Int32} {n : Nat} {f : Nat → Int32} {V : Cell} (h : Cod cd n f V) : cd = 0 ∨ cd = 1 := h.imp (fun q => q.1) fun q => q.1
theorem Cod.len {cd : Int32} {n : Nat} {f : Nat → Int32} {V : Cell} (h : Cod cd n f V) (hs : V.slots.size < 2 ^ 31) : Int32.ofNat V.slots.size >>> (cd &&& 31) = Int32.ofNat n := by
  rcases h with ⟨rfl, h, -⟩ | ⟨rfl, h, -⟩
  · rw [shr0, h]
  · rw [h, shr1 (by omega)]
/-- **x is a String of the n chars f 0 .. f (n - 1)**, Latin-1 or UTF-16; its array at t has the cell V -/
def Txt (x t : Addr) (V : Cell) (cd : Int32) (n : Nat) (f : Nat → Int32) (U : State) : Prop := Exact "java/lang/String" x U ∧ Has x "java/lang/String" "value" "[B" (.ref t) U ∧ Has x "java/lang/String" "coder" "B" (.int cd) U ∧ XT.Arr .byte t V U ∧ Cod cd n f V ∧ ∀ j, j < n → ¬ f j < 0 ∧ ¬ 65535 < f j
theorem Txt.mv {x t : Addr} {V : Cell} {cd : Int32} {n : Nat} {f : Nat → Int32} {U U' : State} (h : Txt x t V cd n f U) (hal : U.vm.Alike U'.vm) (hh : U'.heap = U.heap) : Txt x t V cd n f U' := ⟨h.1.mv hal hh, h.2.1.mv hal hh, h.2.2.1.mv hal hh, h.2.2.2.1.mv hal hh, h.2.2.2.2⟩
namespace Cdr
def yN : MethodName := ⟨"java/lang/String", "coder", "()B"⟩
abbrev yB : ByteArray := jdk_42_method_152_code
theorem d0 : decode yB 0 = .ok (.getstatic 38, 3) := by decide +kernel
theorem d3 : decode yB 3 = .ok (.ifCond (.eq) 10, 3) := by decide +kernel
theorem d6 : decode yB 6 = .ok (.aload_n 0, 1) := by decide +kernel
theorem d7 : decode yB 7 = .ok (.getfield 15, 3) := by decide +kernel
theorem d10 : decode yB 10 = .ok (.goto 4, 3) := by decide +kernel
theorem d14 : decode yB 14 = .ok (.ireturn, 1) := by decide +kernel
def site : List Cond := [.fieldLink "java/lang/String" 38 "java/lang/String" "COMPACT_STRINGS" "Z", .fieldLink "java/lang/String" 15 "java/lang/String" "coder" "B"]
def tab : Cond := tabOf yN yB 1 (some .byte) site
def P (x : Addr) (cd z : Int32) (args : Array Value) (s : State) : Prop := args = #[.ref x] ∧ Has x "java/lang/String" "coder" "B" (.int cd) s ∧ (cd = 0 ∨ cd = 1) ∧ StaticIs s "java/lang/String" "COMPACT_STRINGS" "Z" (.int z) ∧ ¬ z = 0
def E (cd : Int32) (r : Option Value) (s u : State) : Prop := XT.PureE (some (.int cd)) r s u
theorem law (l : Launch) (x : Addr) (cd z : Int32) : Law l yN 1 0 0 0 yB 1 (some .byte) site (P x cd z) (E cd) [] 0 0 := by
  refine Law.of_walk (plainFor_of_name (by decide +kernel)) (by decide +kernel) (by decide +kernel) (by decide) (fun _ _ h => by rw [h.1]; rfl) (fun _ U U' hal hh h => ⟨h.1, h.2.1.mv hal hh, h.2.2.1, h.2.2.2.1.there hal hh, h.2.2.2.2⟩) (fun r U U' V V' h1 hal h2 h => XT.PureE.mv r U U' V V' h1 hal h2 h) ?_
  intro p e s m args below meth c s₁ X0 hexec hbytes hml hret hlk hnm hown hh0 W hP
  obtain ⟨rfl, hx, hc, s1, hz⟩ := hP
  have c1 : Steps p.tables e below (s₁.setTop (entryFrame m #[.ref x] 1)) (s₁.setTop (mkF m 0 #[.val (.ref x)] [])) := entry rfl
  obtain ⟨T2, X2, q2, st2⟩ := X0.sget hexec hown (wk W (.fieldLink "java/lang/String" 38 "java/lang/String" "COMPACT_STRINGS" "Z")) s1 (fun _ _ h => by rw [hh0]; exact h) (g := (mkF m 0 #[.val (.ref x)] [])) rfl (hb hbytes d0)
  have hh2 := q2.trans hh0
  have c3 : Steps p.tables e below (s₁.setTop (entryFrame m #[.ref x] 1)) (T2.setTop (mkF m 7 #[.val (.ref x)] [.ref x])) := (c1.trans (st2 _ (Steps.refl _))).trans (by
    refine XS.ifNo X2.here hexec rfl (hb hbytes d3) rfl (i0_eq_f hz) ?_
    refine XS.aloadN X2.here hexec rfl (hb hbytes d6) rfl rfl ?_
    exact Steps.refl _)
  obtain ⟨T4, X4, q4, st4⟩ := X2.hget hexec hown (wk W (.fieldLink "java/lang/String" 15 "java/lang/String" "coder" "B")) (hx.mv X2.warmed.alike hh2) (g := (mkF m 7 #[.val (.ref x)] [.ref x])) rfl (rest := []) rfl (hb hbytes d7)
  have c5 : Steps p.tables e below (s₁.setTop (entryFrame m #[.ref x] 1)) (T4.setTop (mkF m 14 #[.val (.ref x)] [.int cd])) := (c3.trans (st4 _ (Steps.refl _))).trans (by
    refine XS.goto X4.here hexec rfl (pc0 := 10) rfl (hb hbytes d10) (by decide) rfl ?_
    exact Steps.refl _)
  exact ⟨T4, some (.int cd), _, _, _, X4, rfl, rfl, rfl, (fun h => by cases h), ⟨rfl, q4.trans hh2⟩, fun fs hl => c5.trans (X4.ireturnOut hexec hret (by rcases hc with rfl | rfl <;> rfl) (Or.inr (Or.inr (Or.inl rfl))) (hb hbytes d14) hl)⟩
end Cdr
namespace Len
def yN : MethodName := ⟨"java/lang/String", "length", "()I"⟩
abbrev yB : ByteArray := jdk_42_method_54_code
theorem d0 : decode yB 0 = .ok (.aload_n 0, 1) := by decide +kernel
theorem d1 : decode yB 1 = .ok (.getfield 9, 3) := by decide +kernel
theorem d4 : decode yB 4 = .ok (.arraylength, 1) := by decide +kernel
theorem d5 : decode yB 5 = .ok (.aload_n 0, 1) := by decide +kernel
theorem d6 : decode yB 6 = .ok (.invokevirtual 335, 3) := by decide +kernel
theorem d9 : decode yB 9 = .ok (.ishr, 1) := by decide +kernel
theorem d10 : decode yB 10 = .ok (.ireturn, 1) := by decide +kernel
def site : List Cond := [.fieldLink "java/lang/String" 9 "java/lang/String" "value" "[B", Cdr.tab] ++ virtW "java/lang/String" 335 "java/lang/String" Cdr.yN Cdr.yN
def tab : Cond := tabOf yN yB 1 (some .int) site
def P (x t : Addr) (V : Cell) (cd : Int32) (n : Nat) (f : Nat → Int32) (z : Int32) (args : Array Value) (s : State) : Prop := args = #[.ref x] ∧ Txt x t V cd n f s ∧ StaticIs s "java/lang/String" "COMPACT_STRINGS" "Z" (.int z) ∧ ¬ z = 0
def E (n : Nat) (r : Option Value) (s u : State) : Prop := XT.PureE (some (.int (Int32.ofNat n))) r s u
/-- length() of a String of n chars, in either coding -/
theorem law (l : Launch) (x t : Addr) (V : Cell) (cd : Int32) (n : Nat) (f : Nat → Int32) (z : Int32) : Law l yN 1 0 1 13 yB 1 (some .int) site (P x t V cd n f z) (E n) [] 0 0 := by
  refine Law.of_walk (plainFor_of_name (by decide +kernel)) (by decide +kernel) (by decide +kernel) (by decide) (fun _ _ h => by rw [h.1]; rfl) (fun _ U U' hal hh h => ⟨h.1, h.2.1.mv hal hh, h.2.2.1.there hal hh, h.2.2.2⟩) (fun r U U' V V' h1 hal h2 h => XT.PureE.mv r U U' V V' h1 hal h2 h) ?_
  intro p e s m args below meth c s₁ X0 hexec hbytes hml hret hlk hnm hown hh0 W hP
  obtain ⟨rfl, hx, s1, hz⟩ := hP
  have v31 := hx.2.2.2.1.2.2.2
  have c1 : Steps p.tables e below (s₁.setTop (entryFrame m #[.ref x] 1)) (s₁.setTop (mkF m 1 #[.val (.ref x)] [.ref x])) := Steps.trans (entry rfl) (by
    show Steps p.tables e below (s₁.setTop (mkF m 0 #[.val (.ref x)] [])) _
    refine XS.aloadN X0.here hexec rfl (hb hbytes d0) rfl rfl ?_
    exact Steps.refl _)
  obtain ⟨T2, X2, q2, st2⟩ := X0.hget hexec hown (wk W (.fieldLink "java/lang/String" 9 "java/lang/String" "value" "[B")) (hx.mv X0.warmed.alike hh0).2.1 (g := (mkF m 1 #[.val (.ref x)] [.ref x])) rfl (rest := []) rfl (hb hbytes d1)
  have hh2 := q2.trans hh0
  have hx2 := hx.mv X2.warmed.alike hh2
  have c3 : Steps p.tables e below (s₁.setTop (entryFrame m #[.ref x] 1)) (T2.setTop (mkF m 6 #[.val (.ref x)] [.ref x, .int (Int32.ofNat V.slots.size)])) := (c1.trans (st2 _ (Steps.refl _))).trans (by
    refine X2.alen hexec hx2.2.2.2.1 rfl rfl (hb hbytes d4) ?_
    refine XS.aloadN X2.here hexec rfl (hb hbytes d5) rfl rfl ?_
    exact Steps.refl _)
  obtain ⟨v4, T4, X4, E4, g4⟩ := X2.callV hexec (Cdr.law l x cd z) hown (wks W (virtW "java/lang/String" 335 "java/lang/String" Cdr.yN Cdr.yN)) rfl (by decide) (wk W Cdr.tab) (W := 1) (Nat.le_of_ble_eq_true rfl) (Nat.le_of_ble_eq_true rfl) (Nat.le_refl _) (Nat.le_refl _) (hx2.1.fc X2.warmed.alike) hx2.1.is (g := (mkF m 6 #[.val (.ref x)] [.ref x, .int (Int32.ofNat V.slots.size)])) rfl (by rw [hml]; rfl) c3 (argsL := []) (rest := [.int (Int32.ofNat V.slots.size)]) rfl rfl (by show 2 * 0 + (1 + 0) ≤ _; decide) (hb hbytes d6) (⟨rfl, hx2.2.2.1, hx.2.2.2.2.1.cd, s1.there X2.warmed.alike hh2, hz⟩)
  obtain ⟨rfl, q4⟩ := E4
  have c5 : Steps p.tables e below (s₁.setTop (entryFrame m #[.ref x] 1)) (T4.setTop (mkF m 10 #[.val (.ref x)] [.int (Int32.ofNat V.slots.size >>> (cd &&& 31))])) := Steps.trans g4 (by
    refine ishr X4.here hexec rfl (hb hbytes d9) rfl ?_
    exact Steps.refl _)
  rw [hx.2.2.2.2.1.len v31] at c5
  exact ⟨T4, some (.int (Int32.ofNat n)), _, _, _, X4, rfl, rfl, rfl, (fun h => by cases h), ⟨rfl, q4.trans hh2⟩, fun fs hl => c5.trans (X4.ireturnOut hexec hret rfl (Or.inl rfl) (hb hbytes d10) hl)⟩
theorem pays {l : Launch} {R : Room} {p : Program} {e : Env} {below : List Frame} {s : State} {sargs : Array Value} {len W : Nat} (x t : Addr) (V : Cell) (cd : Int32) (n : Nat) (f : Nat → Int32) (z : Int32) (htab : tab.before sargs s = true) (hfr : 2 ≤ R.frames) (hlo : W + 25 ≤ R.locals) :
    Back l R p e below s sargs yN len W (fun A₁ a₁ => A₁.cells + 0 ≤ R.cells ∧ A₁.slots + 0 ≤ R.slots ∧ P x t V cd n f z a₁ A₁.U) (fun A₁ _ v₁ B₁ => E n v₁ A₁.U B₁.U ∧ B₁.locs = A₁.locs ++ [] ∧ B₁.cells = A₁.cells + 0 ∧ B₁.slots = A₁.slots + 0) :=
  (law l x t V cd n f z).pays htab hfr (by omega)
end Len
namespace IsL
def yN : MethodName := ⟨"java/lang/String", "isLatin1", "()Z"⟩
abbrev yB : ByteArray := jdk_42_method_154_code
theorem d0 : decode yB 0 = .ok (.getstatic 38, 3) := by decide +kernel
theorem d3 : decode yB 3 = .ok (.ifCond (.eq) 14, 3) := by decide +kernel
theorem d6 : decode yB 6 = .ok (.aload_n 0, 1) := by decide +kernel
theorem d7 : decode yB 7 = .ok (.getfield 15, 3) := by decide +kernel
theorem d10 : decode yB 10 = .ok (.ifCond (.ne) 7, 3) := by decide +kernel
theorem d13 : decode yB 13 = .ok (.iconst 1, 1) := by decide +kernel
theorem d14 : decode yB 14 = .ok (.goto 4, 3) := by decide +kernel
theorem d17 : decode yB 17 = .ok (.iconst 0, 1) := by decide +kernel
theorem d18 : decode yB 18 = .ok (.ireturn, 1) := by decide +kernel
def site : List Cond := [.fieldLink "java/lang/String" 38 "java/lang/String" "COMPACT_STRINGS" "Z", .fieldLink "java/lang/String" 15 "java/lang/String" "coder" "B"]
def tab : Cond := tabOf yN yB 1 (some .boolean) site
def P (x : Addr) (cd z : Int32) (args : Array Value) (s : State) : Prop := args = #[.ref x] ∧ Has x "java/lang/String" "coder" "B" (.int cd) s ∧ (cd = 0 ∨ cd = 1) ∧ StaticIs s "java/lang/String" "COMPACT_STRINGS" "Z" (.int z) ∧ ¬ z = 0
def E (cd : Int32) (r : Option Value) (s u : State) : Prop := XT.PureE (some (.int (1 - cd))) r s u
theorem law (l : Launch) (x : Addr) (cd z : Int32) : Law l yN 1 0 0 0 yB 1 (some .boolean) site (P x cd z) (E cd) [] 0 0 := by
  refine Law.of_walk (plainFor_of_name (by decide +kernel)) (by decide +kernel) (by decide +kernel) (by decide) (fun _ _ h => by rw [h.1]; rfl) (fun _ U U' hal hh h => ⟨h.1, h.2.1.mv hal hh, h.2.2.1, h.2.2.2.1.there hal hh, h.2.2.2.2⟩) (fun r U U' V V' h1 hal h2 h => XT.PureE.mv r U U' V V' h1 hal h2 h) ?_
  intro p e s m args below meth c s₁ X0 hexec hbytes hml hret hlk hnm hown hh0 W hP
  obtain ⟨rfl, hx, hc, s1, hz⟩ := hP
  have c1 : Steps p.tables e below (s₁.setTop (entryFrame m #[.ref x] 1)) (s₁.setTop (mkF m 0 #[.val (.ref x)] [])) := entry rfl
  obtain ⟨T2, X2, q2, st2⟩ := X0.sget hexec hown (wk W (.fieldLink "java/lang/String" 38 "java/lang/String" "COMPACT_STRINGS" "Z")) s1 (fun _ _ h => by rw [hh0]; exact h) (g := (mkF m 0 #[.val (.ref x)] [])) rfl (hb hbytes d0)
  have hh2 := q2.trans hh0
  have c3 : Steps p.tables e below (s₁.setTop (entryFrame m #[.ref x] 1)) (T2.setTop (mkF m 7 #[.val (.ref x)] [.ref x])) := (c1.trans (st2 _ (Steps.refl _))).trans (by
    refine XS.ifNo X2.here hexec rfl (hb hbytes d3) rfl (i0_eq_f hz) ?_
    refine XS.aloadN X2.here hexec rfl (hb hbytes d6) rfl rfl ?_
    exact Steps.refl _)
  obtain ⟨T4, X4, q4, st4⟩ := X2.hget hexec hown (wk W (.fieldLink "java/lang/String" 15 "java/lang/String" "coder" "B")) (hx.mv X2.warmed.alike hh2) (g := (mkF m 7 #[.val (.ref x)] [.ref x])) rfl (rest := []) rfl (hb hbytes d7)
  have c5 : Steps p.tables e below (s₁.setTop (entryFrame m #[.ref x] 1)) (T4.setTop (mkF m 10 #[.val (.ref x)] [.int cd])) := c3.trans (st4 _ (Steps.refl _))
  have c6 : Steps p.tables e below (s₁.setTop (entryFrame m #[.ref x] 1)) (T4.setTop (mkF m 18 #[.val (.ref x)] [.int (1 - cd)])) := by
    rcases hc with rfl | rfl
    · exact c5.trans (by
        refine XS.ifNo X4.here hexec rfl (hb hbytes d10) rfl (i0_ne_f rfl) ?_
        refine iconstV X4.here hexec rfl 1 (hb hbytes d13) (by decide) ?_
        refine XS.goto X4.here hexec rfl (pc0 := 14) rfl (hb hbytes d14) (by decide) rfl ?_
        exact Steps.refl _)
    · exact c5.trans (by
        refine XS.ifYes X4.here hexec rfl (pc0 := 10) rfl (hb hbytes d10) rfl (i0_ne_t (by decide)) (by decide) rfl ?_
        refine iconstV X4.here hexec rfl 0 (hb hbytes d17) (by decide) ?_
        exact Steps.refl _)
  exact ⟨T4, some (.int (1 - cd)), _, _, _, X4, rfl, rfl, rfl, (fun h => by cases h), ⟨rfl, q4.trans hh2⟩, fun fs hl => c6.trans (X4.ireturnOut hexec hret (by rcases hc with rfl | rfl <;> rfl) (Or.inr (Or.inl rfl)) (hb hbytes d18) hl)⟩
end IsL
namespace LChA
def yN : MethodName := ⟨"java/lang/StringLatin1", "charAt", "([BI)C"⟩
abbrev yB : ByteArray := jdk_43_method_2_code
theorem d0 : decode yB 0 = .ok (.iload_n 1, 1) := by decide +kernel
theorem d1 : decode yB 1 = .ok (.aload_n 0, 1) := by decide +kernel
theorem d2 : decode yB 2 = .ok (.arraylength, 1) := by decide +kernel
theorem d3 : decode yB 3 = .ok (.invokestatic 9, 3) := by decide +kernel
theorem d6 : decode yB 6 = .ok (.aload_n 0, 1) := by decide +kernel
theorem d7 : decode yB 7 = .ok (.iload_n 1, 1) := by decide +kernel
theorem d8 : decode yB 8 = .ok (.baload, 1) := by decide +kernel
theorem d9 : decode yB 9 = .ok (.sipush 255, 3) := by decide +kernel
theorem d12 : decode yB 12 = .ok (.iand, 1) := by decide +kernel
theorem d13 : decode yB 13 = .ok (.i2c, 1) := by decide +kernel
theorem d14 : decode yB 14 = .ok (.ireturn, 1) := by decide +kernel
def site : List Cond := [JO.Str_checkIndex.tab] ++ staticW "java/lang/StringLatin1" 9 JO.Str_checkIndex.yN
def tab : Cond := tabOf yN yB 2 (some .char) site
def P (t : Addr) (V : Cell) (i : Nat) (u : Int32) (fm : Value) (args : Array Value) (s : State) : Prop := args = #[.ref t, .int (Int32.ofNat i)] ∧ XT.Arr .byte t V s ∧ V.slots[i]? = some (.int u) ∧ (StaticIs s "jdk/internal/util/Preconditions" "SIOOBE_FORMATTER" "Ljava/util/function/BiFunction;" fm ∧ fm.isRef = true)
def E (u : Int32) (r : Option Value) (s w : State) : Prop := XT.PureE (some (.int (chr8 u))) r s w
theorem law (l : Launch) (t : Addr) (V : Cell) (i : Nat) (u : Int32) (fm : Value) : Law l yN 2 2 2 27 yB 2 (some .char) site (P t V i u fm) (E u) [] 0 0 := by
  refine Law.of_walk (plainFor_of_name (by decide +kernel)) (by decide +kernel) (by decide +kernel) (by decide) (fun _ _ h => by rw [h.1]; rfl) (fun _ U U' hal hh h => ⟨h.1, h.2.1.mv hal hh, h.2.2.1, h.2.2.2.1.there hal hh, h.2.2.2.2⟩) (fun r U U' V V' h1 hal h2 h => XT.PureE.mv r U U' V V' h1 hal h2 h) ?_
  intro p e s m args below meth c s₁ X0 hexec hbytes hml hret hlk hnm hown hh0 W hP
  obtain ⟨rfl, hV, hu, s1, rf⟩ := hP
  have v31 := hV.2.2.2
  have hi : i < V.slots.size := (Array.getElem?_eq_some_iff.mp hu).1
  have c1 : Steps p.tables e below (s₁.setTop (entryFrame m #[.ref t, .int (Int32.ofNat i)] 2)) (s₁.setTop (mkF m 0 #[.val (.ref t), .val (.int (Int32.ofNat i))] [])) := entry rfl
  have c2 : Steps p.tables e below (s₁.setTop (entryFrame m #[.ref t, .int (Int32.ofNat i)] 2)) (s₁.setTop (mkF m 3 #[.val (.ref t), .val (.int (Int32.ofNat i))] [.int (Int32.ofNat V.slots.size), .int (Int32.ofNat i)])) := c1.trans (by
    refine XS.iloadN X0.here hexec rfl (hb hbytes d0) rfl ?_
    refine XS.aloadN X0.here hexec rfl (hb hbytes d1) rfl rfl ?_
    refine X0.alen hexec (hV.mv X0.warmed.alike hh0) rfl rfl (hb hbytes d2) ?_
    exact Steps.refl _)
  obtain ⟨v3, T3, X3, E3, g3⟩ := X0.callS hexec (JO.Str_checkIndex.law l (Int32.ofNat i) (Int32.ofNat V.slots.size) fm) hown (wks W (staticW "java/lang/StringLatin1" 9 JO.Str_checkIndex.yN)) (wk W JO.Str_checkIndex.tab) (W := 0) (Nat.le_of_ble_eq_true rfl) (Nat.le_of_ble_eq_true rfl) (Nat.le_refl _) (Nat.le_refl _) (g := (mkF m 3 #[.val (.ref t), .val (.int (Int32.ofNat i))] [.int (Int32.ofNat V.slots.size), .int (Int32.ofNat i)])) rfl (by rw [hml]; rfl) c2 (argsL := [.int (Int32.ofNat i), .int (Int32.ofNat V.slots.size)]) (rest := []) rfl rfl (by show 2 * 0 + 0 ≤ _; decide) (hb hbytes d3) (⟨rfl, rf, s1.there X0.warmed.alike hh0, Int32.ofNat_not_neg (by omega), lt32 v31 hi⟩)
  obtain ⟨rfl, q3⟩ := E3
  have hh3 := q3.trans hh0
  have c4 : Steps p.tables e below (s₁.setTop (entryFrame m #[.ref t, .int (Int32.ofNat i)] 2)) (T3.setTop (mkF m 14 #[.val (.ref t), .val (.int (Int32.ofNat i))] [.int (chr8 u)])) := Steps.trans g3 (by
    refine XS.aloadN X3.here hexec rfl (hb hbytes d6) rfl rfl ?_
    refine XS.iloadN X3.here hexec rfl (hb hbytes d7) rfl ?_
    refine X3.aget hexec (hV.mv X3.warmed.alike hh3) rfl hu rfl rfl (hb hbytes d8) ?_
    refine sipushV X3.here hexec rfl 255 (hb hbytes d9) (by decide) ?_
    refine XS.iand X3.here hexec rfl (hb hbytes d12) rfl ?_
    refine i2c X3.here hexec rfl (hb hbytes d13) rfl ?_
    exact Steps.refl _)
  exact ⟨T3, some (.int (chr8 u)), _, _, _, X3, rfl, rfl, rfl, (fun h => by cases h), ⟨rfl, hh3⟩, fun fs hl => c4.trans (X3.ireturnOut hexec hret (narrow_c _) (Or.inr (Or.inr (Or.inr (Or.inl rfl)))) (hb hbytes d14) hl)⟩
end LChA
end StrChars
namespace StrChars.Road
open Jvm Sem ClassFile Op Lib Jvm.Stand Jvm.Free Jvm.Free.XT
open Jvm.Lib.Cold (StaticIs)
theorem consq {a : Array Value} {s : State} {c : Jvm.Cond} {L : List Jvm.Cond} (h0 : c.before a s = true) (h : ∀ w ∈ L, w.before a s = true) : ∀ w ∈ c :: L, w.before a s = true := fun w hw => (List.mem_cons.mp hw).elim (fun e => e ▸ h0) (h w)
/-- the words of String.length(), either coding -/
abbrev wordsLen : List Jvm.Cond := [.code Len.yN Len.yB 1 (some .int), .initialized ST, .fieldLink ST 9 ST "value" "[B", .fieldLink ST 38 ST "COMPACT_STRINGS" "Z", .fieldLink ST 15 ST "coder" "B", .code Cdr.yN Cdr.yB 1 (some .byte), .methodLink ST 335 Cdr.yN, .declares Cdr.yN, .selects ST Cdr.yN Cdr.yN, .instanceMethod Cdr.yN]
theorem tabLen_of {a : Array Value} {s : State} (h : ∀ w ∈ wordsLen, w.before a s = true) : Len.tab.before a s = true := by
  have hc : Cdr.tab.before a s = true := unparts (wk h (.code Cdr.yN Cdr.yB 1 (some .byte))) (wks h (.initialized Cdr.yN.cls :: Cdr.site))
  have q := consq hc h
  exact unparts (wk q (.code Len.yN Len.yB 1 (some .int))) (wks q (.initialized Len.yN.cls :: Len.site))
theorem movedLen {Z s : State} {a0 args : Array Value} (hZ : Z.Warmed39 s.vm) (hw : ∀ d ∈ wordsLen, d.before a0 Z = true) : ∀ d ∈ wordsLen, d.before args s = true := fun d hd => by
  have q := hw d hd
  have t : ∀ d ∈ wordsLen, d = .arrayClass .byte ∨ (d.onTables && d.keepsFace) = true := by decide +kernel
  rcases t d hd with rfl | t
  · exact RoadKit.mvA hZ q
  · exact RoadKit.mv hZ q t
/-- the bytes of the chars cs, low before high -/
def wideBytes : List Int32 → List Value
  | [] => []
  | c :: cs => .int (lo8 c) :: .int (hi8 c) :: wideBytes cs
theorem wide_lo (d : Value) : ∀ (cs : List Int32) (j : Nat), j < cs.length → (wideBytes cs).getD (2 * j) d = .int (lo8 (cs.getD j 0))
  | [], j, h => absurd h (Nat.not_lt_zero j)
  | c :: cs, 0, _ => rfl
  | c :: cs, j + 1, h => by
    have q := wide_lo d cs j (by simpa using h)
    rw [show 2 * (j + 1) = 2 * j + 1 + 1 from by omega]
    simpa [wideBytes] using q
theorem wide_hi (d : Value) : ∀ (cs : List Int32) (j : Nat), j < cs.length → (wideBytes cs).getD (2 * j + 1) d = .int (hi8 (cs.getD j 0))
  | [], j, h => absurd h (Nat.not_lt_zero j)
  | c :: cs, 0, _ => rfl
  | c :: cs, j + 1, h => by
    have q := wide_hi d cs j (by simpa using h)
    rw [show 2 * (j + 1) + 1 = 2 * j + 1 + 1 + 1 from by omega]
    simpa [wideBytes] using q
theorem low_at (d : Value) (cs : List Int32) (j : Nat) (h : j < cs.length) : (cs.map fun c => Value.int (lo8 c)).getD j d = .int (lo8 (cs.getD j 0)) := by
  simp [List.getD_eq_getElem?_getD, h]
/-- an array of N2 bytes vs codes the chars cs by the coder cd -/
def CodA (cs : List Int32) (cd N2 : Int32) (vs : List Value) : Prop := (cd = 0 ∧ N2 = Int32.ofNat cs.length ∧ vs = (cs.map fun c => Value.int (lo8 c)) ∧ ∀ c ∈ cs, ¬ 255 < c) ∨ (cd = 1 ∧ N2 = Int32.ofNat (2 * cs.length) ∧ vs = wideBytes cs ∧ ∃ c ∈ cs, 255 < c)
theorem CodA.cod {cs : List Int32} {cd N2 : Int32} {vs : List Value} {V : Cell} (h : CodA cs cd N2 vs) (hn : 2 * cs.length < 2 ^ 31) (hs : V.slots.size = N2.toNatClampNeg) (hv : RoadKit.Has V vs (.int 0)) : Cod cd cs.length (fun j => cs.getD j 0) V := by
  rcases h with ⟨rfl, rfl, rfl, h⟩ | ⟨rfl, rfl, rfl, c, hc, hw⟩
  · rw [n32 (by omega)] at hs
    exact Or.inl ⟨rfl, hs, fun j hj => ⟨by rw [hv j (by omega), low_at _ _ _ hj], by
      have e : cs.getD j 0 = cs[j] := by simp [List.getD_eq_getElem?_getD, hj]
      show ¬ 255 < cs.getD j 0
      rw [e]; exact h _ (List.getElem_mem _)⟩⟩
  · rw [n32 (by omega)] at hs
    obtain ⟨j, hj, rfl⟩ := List.getElem_of_mem hc
    exact Or.inr ⟨rfl, hs, fun j hj => ⟨by rw [hv _ (by omega), wide_lo _ _ _ hj], by rw [hv _ (by omega), wide_hi _ _ _ hj]⟩, j, hj, by
      have e : cs.getD j 0 = cs[j] := by simp [List.getD_eq_getElem?_getD, hj]
      show 255 < cs.getD j 0
      rw [e]; exact hw⟩
/-- an object of exactly java/lang/String, its two fields found: as the laws ask it -/
theorem strObj {Z U : State} {a0 : Array Value} {kI : Nat} (wi : (Jvm.Cond.instantiable ST kI).before a0 Z = true) (al : Z.vm.Alike U.vm) {x : Addr} {v0 c0 : Value} (E : RoadKit.Exa Z U.heap x ST) (V : RoadKit.Fld Z U.heap x ST "value" "[B" v0) (C : RoadKit.Fld Z U.heap x ST "coder" "B" c0) :
    ∃ (D : Cell) (fV fC : Field), Blank ST x D U ∧ Found ST "value" "[B" fV U ∧ Found ST "coder" "B" fC U ∧ D.slots[fV.slot]? = some v0 ∧ D.slots[fC.slot]? = some c0 ∧ RoadKit.slotOf Z ST "value" "[B" = fV.slot ∧ RoadKit.slotOf Z ST "coder" "B" = fC.slot := by
  obtain ⟨D, cfV, kV, iV, fV, hD, gV, stV, knV, obV, asV, slV⟩ := V
  obtain ⟨D', cfC, kC, iC, fC, hD', gC, stC, -, -, asC, slC⟩ := C
  cases hD.symm.trans hD'
  obtain ⟨D2, kD, e1, e2, e3, e4, e5⟩ := E
  cases hD.symm.trans e1
  obtain ⟨c2, k2, i1, i2, i3, -⟩ := Cond.instantiable_spec wi
  cases e2.symm.trans i1
  cases e3.symm.trans i2
  obtain ⟨kU, u1, u2⟩ := al.2.2 _ _ e3
  exact ⟨D, fV, fC, ⟨hD, ⟨knV, fun q hq => by rw [hq] at obV; cases obV⟩, by rw [al.findClass]; exact e2, kU, u1, by rw [u2]; exact i3, by rw [u2]; exact e5 i3⟩, ⟨SBG.found_only al ⟨cfV, kV, iV, gV⟩, stV⟩, ⟨SBG.found_only al ⟨cfC, kC, iC, gC⟩, stC⟩, slV, slC, by simp [RoadKit.slotOf, gV], by simp [RoadKit.slotOf, gC]⟩
theorem sta_is {Z U : State} (al : Z.vm.Alike U.vm) {C n d : String} {v : Value} (S : RoadKit.Sta Z U.heap C n d v) : StaticIs U C n d v := by
  obtain ⟨cfS, iS, kS, fS, st, cS, t1, t2, t3, t4, t5, t6, t7⟩ := S
  exact StaticIs.there (s := { Z with heap := U.heap }) ⟨cfS, iS, kS, fS, st, cS, t1, t2, t3, t4, t5, (fun q => by rw [q] at t6; cases t6), t7⟩ al rfl
/-- **length() OF SUCH A STRING** -/
theorem lenW {p : Program} {l : Launch} {e : Env} {R : Room} {s : State} {args : Array Value} {below : List Frame} {len W : Nat} {Z : State} {a0 : Array Value} {h : Heap} (hZ : Z.Warmed39 s.vm) (hw : ∀ d ∈ wordsLen, d.before a0 Z = true) {kI : Nat} (wi : (Jvm.Cond.instantiable ST kI).before a0 Z = true)
    {x t : Addr} {kb : ClassId} {cs : List Int32} {cd N2 z : Int32} {vs : List Value} (E : RoadKit.Exa Z h x ST) (V : RoadKit.Fld Z h x ST "value" "[B" (.ref t)) (C : RoadKit.Fld Z h x ST "coder" "B" (.int cd)) (K : RoadKit.Arv Z h t kb .byte N2 vs (.int 0)) (hc : CodA cs cd N2 vs) (hb : ∀ c ∈ cs, ¬ c < 0 ∧ ¬ (65535 : Int32) < c)
    (S : RoadKit.Sta Z h ST "COMPACT_STRINGS" "Z" (.int z)) (hz : ¬ z = 0) (l2 : cs.length ≤ 4000) (hfr : 2 ≤ R.frames) (hlo : W + 25 ≤ R.locals) :
    Back l R p e below s args (⟨"java/lang/String", "length", "()I"⟩ : MethodName) len W (fun P a => a = #[.ref x] ∧ P.U.heap = h ∧ P.cells + 0 ≤ R.cells ∧ P.slots + 0 ≤ R.slots)
      (fun P _ v B => ∃ L, (v = some (.int (Int32.ofNat cs.length)) ∧ L = [] ∧ B.U.heap = h) ∧ B.locs = P.locs ++ L ∧ B.cells = P.cells + 0 ∧ B.slots = P.slots + 0) := by
  obtain ⟨A, K1, K2, K3, K4, K5, K6⟩ := K
  have hcod := hc.cod (by omega) K3 K5
  intro m meth c P g ig mk a X hg hsize hdg hW hn hp'
  obtain ⟨rfl, rfl, r1, r2⟩ := hp'
  have al : Z.vm.Alike P.U.vm := hZ.alike.trans X.warmed.alike
  obtain ⟨D, fV, fC, hB, F1, F2, g1, g2, -, -⟩ := strObj wi al E V C
  have hx : Txt x t A cd cs.length (fun j => cs.getD j 0) P.U := ⟨⟨_, hB.2.2.1, D, hB.1, rfl, by cases q : D.vm <;> first | rfl | exact absurd q (hB.2.1.2 _)⟩, Has.of hB F1 g1, Has.of hB F2 g2, ⟨K1.1, State.isArrayOf_alike al K1.2.1, K1.2.2, by rcases hcod with ⟨-, q, -⟩ | ⟨-, q, -⟩ <;> omega⟩, hcod, fun j hj => by
    have e : cs.getD j 0 = cs[j] := by simp [List.getD_eq_getElem?_getD, hj]
    show ¬ cs.getD j 0 < 0 ∧ ¬ 65535 < cs.getD j 0
    rw [e]; exact hb _ (List.getElem_mem _)⟩
  obtain ⟨v, B, X', ⟨⟨hv, hh⟩, hl, hk, hs⟩, st⟩ := Len.pays x t A cd cs.length (fun j => cs.getD j 0) z (tabLen_of (movedLen hZ hw)) hfr hlo m meth c P g ig mk _ X hg hsize hdg hW hn ⟨r1, r2, rfl, hx, sta_is al S, hz⟩
  exact ⟨v, B, X', ⟨[], ⟨hv, rfl, hh⟩, hl, hk, hs⟩, st⟩
end StrChars.Road
namespace StrChars
open Jvm Sem ClassFile Op Lib Jvm.Stand Jvm.Free.XT Jvm.Free.ALB Jvm.Free.JM Jvm.Free
open Jvm.Lib.Cold (StaticIs)
/-- what place i of a byte[]'s cell holds -/
def yv (A : Cell) (i : Nat) : Int32 := match A.slots[i]? with | some (.int x) => x | _ => 0
theorem yv_get {a : Addr} {A : Cell} {U : State} (h : XT.Arr .byte a A U) (ht : Typed .byte A) {i : Nat} (hi : i < A.slots.size) : A.slots[i]? = some (.int (yv A i)) := by
  have e := Array.getElem?_eq_getElem hi
  have f := ht i _ e
  unfold yv; rw [e]
  generalize A.slots[i] = v at f
  cases v <;> simp [fits] at f ⊢
/-- the two arrays are equal, place for place -/
def EqC (A B : Cell) : Prop := A.slots.size = B.slots.size ∧ ∀ i, i < A.slots.size → yv A i = yv B i
/-- a boolean that says whether p -/
def Says01 (q : Prop) (r : Option Value) (s u : State) : Prop := ∃ v : Int32, r = some (.int v) ∧ u.heap = s.heap ∧ ((v = 1 ∧ q) ∨ (v = 0 ∧ ¬ q))
theorem Says01.mv {q : Prop} : ∀ r (U U' V V' : State), U'.heap = U.heap → V.vm.Alike V'.vm → V'.heap = V.heap → Says01 q r U V → Says01 q r U' V' :=
  fun r U U' V V' h1 _ h2 ⟨v, a, b, c⟩ => ⟨v, a, by rw [h1, h2]; exact b, c⟩
namespace LEq
def yN : MethodName := ⟨"java/lang/StringLatin1", "equals", "([B[B)Z"⟩
abbrev yB : ByteArray := jdk_43_method_13_code
theorem d0 : decode yB 0 = .ok (.aload_n 0, 1) := by decide +kernel
theorem d1 : decode yB 1 = .ok (.arraylength, 1) := by decide +kernel
theorem d2 : decode yB 2 = .ok (.aload_n 1, 1) := by decide +kernel
theorem d3 : decode yB 3 = .ok (.arraylength, 1) := by decide +kernel
theorem d4 : decode yB 4 = .ok (.if_icmp (.ne) 30, 3) := by decide +kernel
theorem d7 : decode yB 7 = .ok (.iconst 0, 1) := by decide +kernel
theorem d8 : decode yB 8 = .ok (.istore_n 2, 1) := by decide +kernel
theorem d9 : decode yB 9 = .ok (.iload_n 2, 1) := by decide +kernel
theorem d10 : decode yB 10 = .ok (.aload_n 0, 1) := by decide +kernel
theorem d11 : decode yB 11 = .ok (.arraylength, 1) := by decide +kernel
theorem d12 : decode yB 12 = .ok (.if_icmp (.ge) 20, 3) := by decide +kernel
theorem d15 : decode yB 15 = .ok (.aload_n 0, 1) := by decide +kernel
theorem d16 : decode yB 16 = .ok (.iload_n 2, 1) := by decide +kernel
theorem d17 : decode yB 17 = .ok (.baload, 1) := by decide +kernel
theorem d18 : decode yB 18 = .ok (.aload_n 1, 1) := by decide +kernel
theorem d19 : decode yB 19 = .ok (.iload_n 2, 1) := by decide +kernel
theorem d20 : decode yB 20 = .ok (.baload, 1) := by decide +kernel
theorem d21 : decode yB 21 = .ok (.if_icmp (.eq) 5, 3) := by decide +kernel
theorem d24 : decode yB 24 = .ok (.iconst 0, 1) := by decide +kernel
theorem d25 : decode yB 25 = .ok (.ireturn, 1) := by decide +kernel
theorem d26 : decode yB 26 = .ok (.iinc 2 1, 3) := by decide +kernel
theorem d29 : decode yB 29 = .ok (.goto (-20), 3) := by decide +kernel
theorem d32 : decode yB 32 = .ok (.iconst 1, 1) := by decide +kernel
theorem d33 : decode yB 33 = .ok (.ireturn, 1) := by decide +kernel
theorem d34 : decode yB 34 = .ok (.iconst 0, 1) := by decide +kernel
theorem d35 : decode yB 35 = .ok (.ireturn, 1) := by decide +kernel
def site : List Cond := []
def tab : Cond := tabOf yN yB 3 (some .boolean) site
def P (a : Addr) (A : Cell) (b : Addr) (B : Cell) (args : Array Value) (s : State) : Prop := args = #[.ref a, .ref b] ∧ XT.Arr .byte a A s ∧ Typed .byte A ∧ XT.Arr .byte b B s ∧ Typed .byte B
/-- whether two byte[] are equal, place for place -/
theorem law (l : Launch) (a : Addr) (A : Cell) (b : Addr) (B : Cell) : Law l yN 2 2 0 0 yB 3 (some .boolean) site (P a A b B) (Says01 (EqC A B)) [] 0 0 := by
  refine Law.of_walk (plainFor_of_name (by decide +kernel)) (by decide +kernel) (by decide +kernel) (by decide) (fun _ _ h => by rw [h.1]; rfl) (fun _ U U' hal hh h => ⟨h.1, h.2.1.mv hal hh, h.2.2.1, h.2.2.2.1.mv hal hh, h.2.2.2.2⟩) (fun r U U' V V' h1 hal h2 h => Says01.mv r U U' V V' h1 hal h2 h) ?_
  intro p e s m args below meth c s₁ X0 hexec hbytes hml hret hlk hnm hown hh0 W hP
  obtain ⟨rfl, hA, tA, hB, tB⟩ := hP
  have a31 := hA.2.2.2
  have b31 := hB.2.2.2
  have hA0 := hA.mv X0.warmed.alike hh0
  have hB0 := hB.mv X0.warmed.alike hh0
  have c1 : Steps p.tables e below (s₁.setTop (entryFrame m #[.ref a, .ref b] 3)) (s₁.setTop (mkF m 0 #[.val (.ref a), .val (.ref b), .unset] [])) := entry rfl
  have c2 : Steps p.tables e below (s₁.setTop (entryFrame m #[.ref a, .ref b] 3)) (s₁.setTop (mkF m 4 #[.val (.ref a), .val (.ref b), .unset] [.int (Int32.ofNat B.slots.size), .int (Int32.ofNat A.slots.size)])) := c1.trans (by
    refine XS.aloadN X0.here hexec rfl (hb hbytes d0) rfl rfl ?_
    refine X0.alen hexec hA0 rfl rfl (hb hbytes d1) ?_
    refine XS.aloadN X0.here hexec rfl (hb hbytes d2) rfl rfl ?_
    refine X0.alen hexec hB0 rfl rfl (hb hbytes d3) ?_
    exact Steps.refl _)
  by_cases hs : A.slots.size = B.slots.size
  · have c3 : Steps p.tables e below (s₁.setTop (entryFrame m #[.ref a, .ref b] 3)) (s₁.setTop (mkF m 9 #[.val (.ref a), .val (.ref b), .val (.int 0)] [])) := c2.trans (by
      refine XS.icmpNo X0.here hexec rfl (hb hbytes d4) rfl (ii_ne_f (by rw [hs])) ?_
      refine iconstV X0.here hexec rfl 0 (hb hbytes d7) (by decide) ?_
      refine XS.istoreN X0.here hexec rfl (hb hbytes d8) rfl rfl ?_
      exact Steps.refl _)
    have loop : ∀ (r i : Nat), i + r = A.slots.size → (∀ j, j < i → yv A j = yv B j) → Steps p.tables e below (s₁.setTop (entryFrame m #[.ref a, .ref b] 3)) (s₁.setTop (mkF m 9 #[.val (.ref a), .val (.ref b), .val (.int (Int32.ofNat i))] [])) → ∃ (pc : Nat) (Ls : Array Slot) (v : Int32), (pc = 25 ∨ pc = 33) ∧ ((v = 1 ∧ EqC A B) ∨ (v = 0 ∧ ¬ EqC A B)) ∧ Steps p.tables e below (s₁.setTop (entryFrame m #[.ref a, .ref b] 3)) (s₁.setTop (mkF m pc Ls [.int v])) := by
      intro r
      induction r with
      | zero =>
        intro i hi he cl
        exact ⟨33, _, 1, Or.inr rfl, Or.inl ⟨rfl, hs, fun j hj => he j (by omega)⟩, cl.trans (by
          refine XS.iloadN X0.here hexec rfl (hb hbytes d9) rfl ?_
          refine XS.aloadN X0.here hexec rfl (hb hbytes d10) rfl rfl ?_
          refine X0.alen hexec hA0 rfl rfl (hb hbytes d11) ?_
          refine XS.icmpYes X0.here hexec rfl (pc0 := 12) rfl (hb hbytes d12) rfl (ii_ge_t (nlt32 (by omega) (by omega))) (by decide) rfl ?_
          refine iconstV X0.here hexec rfl 1 (hb hbytes d32) (by decide) ?_
          exact Steps.refl _)⟩
      | succ r ih =>
        intro i hi he cl
        have c4 : Steps p.tables e below (s₁.setTop (entryFrame m #[.ref a, .ref b] 3)) (s₁.setTop (mkF m 21 #[.val (.ref a), .val (.ref b), .val (.int (Int32.ofNat i))] [.int (yv B i), .int (yv A i)])) := cl.trans (by
          refine XS.iloadN X0.here hexec rfl (hb hbytes d9) rfl ?_
          refine XS.aloadN X0.here hexec rfl (hb hbytes d10) rfl rfl ?_
          refine X0.alen hexec hA0 rfl rfl (hb hbytes d11) ?_
          refine XS.icmpNo X0.here hexec rfl (hb hbytes d12) rfl (ii_ge_f (lt32 (by omega) (by omega))) ?_
          refine XS.aloadN X0.here hexec rfl (hb hbytes d15) rfl rfl ?_
          refine XS.iloadN X0.here hexec rfl (hb hbytes d16) rfl ?_
          refine X0.aget hexec hA0 rfl (yv_get hA tA (i := i) (by omega)) rfl rfl (hb hbytes d17) ?_
          refine XS.aloadN X0.here hexec rfl (hb hbytes d18) rfl rfl ?_
          refine XS.iloadN X0.here hexec rfl (hb hbytes d19) rfl ?_
          refine X0.aget hexec hB0 rfl (yv_get hB tB (i := i) (by omega)) rfl rfl (hb hbytes d20) ?_
          exact Steps.refl _)
        by_cases hv : yv A i = yv B i
        · have c5 : Steps p.tables e below (s₁.setTop (entryFrame m #[.ref a, .ref b] 3)) (s₁.setTop (mkF m 9 #[.val (.ref a), .val (.ref b), .val (.int (Int32.ofNat i + 1))] [])) := c4.trans (by
            refine XS.icmpYes X0.here hexec rfl (pc0 := 21) rfl (hb hbytes d21) rfl (ii_eq_t hv) (by decide) rfl ?_
            refine iincV X0.here hexec rfl 1 (hb hbytes d26) (by decide) rfl rfl ?_
            refine XS.goto X0.here hexec rfl (pc0 := 29) rfl (hb hbytes d29) (by decide) rfl ?_
            exact Steps.refl _)
          rw [succ32] at c5
          exact ih (i + 1) (by omega) (fun j hj => by
            by_cases e : j = i
            · rw [e]; exact hv
            · exact he j (by omega)) c5
        · exact ⟨25, _, 0, Or.inl rfl, Or.inr ⟨rfl, fun q => hv (q.2 i (by omega))⟩, c4.trans (by
            refine XS.icmpNo X0.here hexec rfl (hb hbytes d21) rfl (ii_eq_f hv) ?_
            refine iconstV X0.here hexec rfl 0 (hb hbytes d24) (by decide) ?_
            exact Steps.refl _)⟩
    obtain ⟨pc, Ls, v, hpc, hv, cz⟩ := loop A.slots.size 0 (by omega) (fun j hj => absurd hj (Nat.not_lt_zero j)) c3
    have nv : narrow .boolean (.int v) = .int v := by rcases hv with ⟨rfl, -⟩ | ⟨rfl, -⟩ <;> rfl
    rcases hpc with rfl | rfl
    · exact ⟨s₁, some (.int v), _, _, _, X0, rfl, rfl, rfl, (fun h => by cases h), ⟨v, rfl, hh0, hv⟩, fun fs hl => cz.trans (X0.ireturnOut hexec hret nv (Or.inr (Or.inl rfl)) (hb hbytes d25) hl)⟩
    · exact ⟨s₁, some (.int v), _, _, _, X0, rfl, rfl, rfl, (fun h => by cases h), ⟨v, rfl, hh0, hv⟩, fun fs hl => cz.trans (X0.ireturnOut hexec hret nv (Or.inr (Or.inl rfl)) (hb hbytes d33) hl)⟩
  · have c3 : Steps p.tables e below (s₁.setTop (entryFrame m #[.ref a, .ref b] 3)) (s₁.setTop (mkF m 35 #[.val (.ref a), .val (.ref b), .unset] [.int 0])) := c2.trans (by
      refine XS.icmpYes X0.here hexec rfl (pc0 := 4) rfl (hb hbytes d4) rfl (ii_ne_t (ne32 a31 b31 hs)) (by decide) rfl ?_
      refine iconstV X0.here hexec rfl 0 (hb hbytes d34) (by decide) ?_
      exact Steps.refl _)
    exact ⟨s₁, some (.int 0), _, _, _, X0, rfl, rfl, rfl, (fun h => by cases h), ⟨0, rfl, hh0, Or.inr ⟨rfl, fun q => hs q.1⟩⟩, fun fs hl => c3.trans (X0.ireturnOut hexec hret rfl (Or.inr (Or.inl rfl)) (hb hbytes d35) hl)⟩
end LEq
theorem Cod.ty {cd : Int32} {n : Nat} {f : Nat → Int32} {V : Cell} (h : Cod cd n f V) : Typed .byte V := fun i v hv => by
  have hi : i < V.slots.size := (Array.getElem?_eq_some_iff.mp hv).1
  rcases h with ⟨-, k1, k2⟩ | ⟨-, k1, k2, -⟩
  · rw [(k2 i (by omega)).1] at hv; cases hv; exact fits_lo8 _
  · rcases Nat.mod_two_eq_zero_or_one i with e | e
    · obtain ⟨j, rfl⟩ : ∃ j, i = 2 * j := ⟨i / 2, by omega⟩
      rw [(k2 j (by omega)).1] at hv; cases hv; exact fits_lo8 _
    · obtain ⟨j, rfl⟩ : ∃ j, i = 2 * j + 1 := ⟨i / 2, by omega⟩
      rw [(k2 j (by omega)).2] at hv; cases hv; exact fits_lo8 _
/-- the same text -/
def SameT (n : Nat) (f : Nat → Int32) (k : Nat) (g : Nat → Int32) : Prop := n = k ∧ ∀ j, j < n → f j = g j
theorem lo8_inj {x y : Int32} (h0 : ¬ x < 0) (h1 : ¬ 255 < x) (k0 : ¬ y < 0) (k1 : ¬ 255 < y) (h : lo8 x = lo8 y) : x = y := by
  rw [← lo8_mask h0 h1, ← lo8_mask k0 k1, h]
/-- arrays coded by one coder are equal just where the texts are -/
theorem Cod.eqv {cd : Int32} {n k : Nat} {f g : Nat → Int32} {V V' : Cell} (h : Cod cd n f V) (h' : Cod cd k g V') (hf : ∀ j, j < n → ¬ f j < 0 ∧ ¬ 65535 < f j) (hg : ∀ j, j < k → ¬ g j < 0 ∧ ¬ 65535 < g j) : EqC V V' ↔ SameT n f k g := by
  have yvv : ∀ {W : Cell} {i : Nat} {x : Int32}, W.slots[i]? = some (.int x) → yv W i = x := fun q => by unfold yv; rw [q]
  rcases h with ⟨rfl, k1, k2⟩ | ⟨rfl, k1, k2, -⟩
  · rcases h' with ⟨-, m1, m2⟩ | ⟨e, -⟩
    · constructor
      · rintro ⟨e1, e2⟩
        refine ⟨by omega, fun j hj => ?_⟩
        have q := e2 j (by omega)
        rw [yvv (k2 j hj).1, yvv (m2 j (by omega)).1] at q
        exact lo8_inj (hf j hj).1 (k2 j hj).2 (hg j (by omega)).1 (m2 j (by omega)).2 q
      · rintro ⟨rfl, e2⟩
        refine ⟨by omega, fun j hj => ?_⟩
        rw [yvv (k2 j (by omega)).1, yvv (m2 j (by omega)).1, e2 j (by omega)]
    · exact absurd e (by decide)
  · rcases h' with ⟨e, -⟩ | ⟨-, m1, m2, -⟩
    · exact absurd e (by decide)
    · constructor
      · rintro ⟨e1, e2⟩
        refine ⟨by omega, fun j hj => ?_⟩
        have q1 := e2 (2 * j) (by omega)
        have q2 := e2 (2 * j + 1) (by omega)
        rw [yvv (k2 j hj).1, yvv (m2 j (by omega)).1] at q1
        rw [yvv (k2 j hj).2, yvv (m2 j (by omega)).2] at q2
        rw [← pair_says (hf j hj).1 (hf j hj).2, ← pair_says (hg j (by omega)).1 (hg j (by omega)).2, q1, q2]
      · rintro ⟨rfl, e2⟩
        refine ⟨by omega, fun i hi => ?_⟩
        rcases Nat.mod_two_eq_zero_or_one i with e | e
        · obtain ⟨j, rfl⟩ : ∃ j, i = 2 * j := ⟨i / 2, by omega⟩
          rw [yvv (k2 j (by omega)).1, yvv (m2 j (by omega)).1, e2 j (by omega)]
        · obtain ⟨j, rfl⟩ : ∃ j, i = 2 * j + 1 := ⟨i / 2, by omega⟩
          rw [yvv (k2 j (by omega)).2, yvv (m2 j (by omega)).2, e2 j (by omega)]
/-- two codings differ: so do the texts -/
theorem Cod.dif {cd cd' : Int32} {n k : Nat} {f g : Nat → Int32} {V V' : Cell} (h : Cod cd n f V) (h' : Cod cd' k g V') (hne : ¬ cd = cd') : ¬ SameT n f k g := by
  rintro ⟨rfl, e⟩
  rcases h with ⟨rfl, -, k2⟩ | ⟨rfl, -, -, j, hj, hw⟩
  · rcases h' with ⟨rfl, -⟩ | ⟨-, -, -, j, hj, hw⟩
    · exact hne rfl
    · exact (k2 j hj).2 (by rw [e j hj]; exact hw)
  · rcases h' with ⟨-, -, m2⟩ | ⟨rfl, -⟩
    · exact (m2 j hj).2 (by rw [← e j hj]; exact hw)
    · exact hne rfl
/-- an object of exactly C is an instance of C -/
theorem cinst {p : Program} {l : Launch} {e : Env} {R : Room} {s : State} {m : MethodId} {args : Array Value} {below : List Frame} {meth : Method} {c : Code} {T : State} {locs : List Loc} {cells slots : Nat} (X : Stand p l e R s m args below meth c T locs cells slots) (hexec : p.tables.exec = Jvm.exec) {own C : String} {index : Nat} (hown : s.vm.findClass own = some m.cls) (hlink : (Cond.classLink own index C).before args s = true) {a : Addr} (hE : Exact C a T)
    {g : JFrame} (hg : g.method = m) {rest : List Value} (hstack : g.stack = .ref a :: rest) (hdg : decode c.code g.pc = .ok (.instanceof index, 3)) :
    ∃ T', Stand p l e R s m args below meth c T' locs cells slots ∧ T'.heap = T.heap ∧ ∀ target, Steps p.tables e below (T'.setTop { g with pc := g.pc + 3, stack := .int 1 :: rest }) target → Steps p.tables e below (T.setTop g) target := by
  obtain ⟨cB, h1, D, h2, h3, h4⟩ := hE
  have h1' : s.vm.findClass C = some cB := by rw [← X.warmed.alike.findClass]; exact h1
  obtain ⟨vm', X', st⟩ := X.instanceofYes hexec hown hlink h2 h4 h1' (by rw [h3]; exact Jvm.Free.SB.assignable_self _ _) hg hstack hdg
  exact ⟨_, X', rfl, st⟩
theorem cself {p : Program} {l : Launch} {e : Env} {R : Room} {s : State} {m : MethodId} {args : Array Value} {below : List Frame} {meth : Method} {c : Code} {T : State} {locs : List Loc} {cells slots : Nat} (X : Stand p l e R s m args below meth c T locs cells slots) (hexec : p.tables.exec = Jvm.exec) {own C : String} {index : Nat} (hown : s.vm.findClass own = some m.cls) (hlink : (Cond.classLink own index C).before args s = true) {a : Addr} (hE : Exact C a T)
    {g : JFrame} (hg : g.method = m) {rest : List Value} (hstack : g.stack = .ref a :: rest) (hdg : decode c.code g.pc = .ok (.checkcast index, 3)) :
    ∃ T', Stand p l e R s m args below meth c T' locs cells slots ∧ T'.heap = T.heap ∧ ∀ target, Steps p.tables e below (T'.setTop { g with pc := g.pc + 3, stack := .ref a :: rest }) target → Steps p.tables e below (T.setTop g) target := by
  obtain ⟨cB, h1, D, h2, h3, h4⟩ := hE
  have h1' : s.vm.findClass C = some cB := by rw [← X.warmed.alike.findClass]; exact h1
  obtain ⟨vm', X', st⟩ := X.checkcastYes hexec hown hlink h2 h4 h1' (by rw [h3]; exact Jvm.Free.SB.assignable_self _ _) hg hstack hdg
  exact ⟨_, X', rfl, fun t h => st t (by rw [← hstack] at h; exact h)⟩
namespace SEq
def yN : MethodName := ⟨"java/lang/String", "equals", "(Ljava/lang/Object;)Z"⟩
abbrev yB : ByteArray := jdk_42_method_66_code
theorem d0 : decode yB 0 = .ok (.aload_n 0, 1) := by decide +kernel
theorem d1 : decode yB 1 = .ok (.aload_n 1, 1) := by decide +kernel
theorem d2 : decode yB 2 = .ok (.if_acmp (.ne) 5, 3) := by decide +kernel
theorem d5 : decode yB 5 = .ok (.iconst 1, 1) := by decide +kernel
theorem d6 : decode yB 6 = .ok (.ireturn, 1) := by decide +kernel
theorem d7 : decode yB 7 = .ok (.aload_n 1, 1) := by decide +kernel
theorem d8 : decode yB 8 = .ok (.instanceof 10, 3) := by decide +kernel
theorem d11 : decode yB 11 = .ok (.ifCond (.eq) 43, 3) := by decide +kernel
theorem d14 : decode yB 14 = .ok (.aload_n 1, 1) := by decide +kernel
theorem d15 : decode yB 15 = .ok (.checkcast 10, 3) := by decide +kernel
theorem d18 : decode yB 18 = .ok (.astore_n 2, 1) := by decide +kernel
theorem d19 : decode yB 19 = .ok (.getstatic 38, 3) := by decide +kernel
theorem d22 : decode yB 22 = .ok (.ifCond (.eq) 14, 3) := by decide +kernel
theorem d25 : decode yB 25 = .ok (.aload_n 0, 1) := by decide +kernel
theorem d26 : decode yB 26 = .ok (.getfield 15, 3) := by decide +kernel
theorem d29 : decode yB 29 = .ok (.aload_n 2, 1) := by decide +kernel
theorem d30 : decode yB 30 = .ok (.getfield 15, 3) := by decide +kernel
theorem d33 : decode yB 33 = .ok (.if_icmp (.ne) 21, 3) := by decide +kernel
theorem d36 : decode yB 36 = .ok (.aload_n 0, 1) := by decide +kernel
theorem d37 : decode yB 37 = .ok (.getfield 9, 3) := by decide +kernel
theorem d40 : decode yB 40 = .ok (.aload_n 2, 1) := by decide +kernel
theorem d41 : decode yB 41 = .ok (.getfield 9, 3) := by decide +kernel
theorem d44 : decode yB 44 = .ok (.invokestatic 541, 3) := by decide +kernel
theorem d47 : decode yB 47 = .ok (.ifCond (.eq) 7, 3) := by decide +kernel
theorem d50 : decode yB 50 = .ok (.iconst 1, 1) := by decide +kernel
theorem d51 : decode yB 51 = .ok (.goto 4, 3) := by decide +kernel
theorem d54 : decode yB 54 = .ok (.iconst 0, 1) := by decide +kernel
theorem d55 : decode yB 55 = .ok (.ireturn, 1) := by decide +kernel
def site : List Cond := [.classLink "java/lang/String" 10 "java/lang/String", .fieldLink "java/lang/String" 38 "java/lang/String" "COMPACT_STRINGS" "Z", .fieldLink "java/lang/String" 15 "java/lang/String" "coder" "B", .fieldLink "java/lang/String" 9 "java/lang/String" "value" "[B", LEq.tab] ++ staticW "java/lang/String" 541 LEq.yN
def tab : Cond := tabOf yN yB 3 (some .boolean) site
def P (x t : Addr) (V : Cell) (cd : Int32) (n : Nat) (f : Nat → Int32) (y t' : Addr) (V' : Cell) (cd' : Int32) (k : Nat) (g : Nat → Int32) (z : Int32) (args : Array Value) (s : State) : Prop := args = #[.ref x, .ref y] ∧ Txt x t V cd n f s ∧ Txt y t' V' cd' k g s ∧ StaticIs s "java/lang/String" "COMPACT_STRINGS" "Z" (.int z) ∧ ¬ z = 0
/-- equals(Object) of two Strings: whether the texts are the same -/
theorem law (l : Launch) (x t : Addr) (V : Cell) (cd : Int32) (n : Nat) (f : Nat → Int32) (y t' : Addr) (V' : Cell) (cd' : Int32) (k : Nat) (g : Nat → Int32) (z : Int32) : Law l yN 2 1 1 14 yB 3 (some .boolean) site (P x t V cd n f y t' V' cd' k g z) (Says01 (SameT n f k g)) [] 0 0 := by
  refine Law.of_walk (plainFor_of_name (by decide +kernel)) (by decide +kernel) (by decide +kernel) (by decide) (fun _ _ h => by rw [h.1]; rfl) (fun _ U U' hal hh h => ⟨h.1, h.2.1.mv hal hh, h.2.2.1.mv hal hh, h.2.2.2.1.there hal hh, h.2.2.2.2⟩) (fun r U U' V V' h1 hal h2 h => Says01.mv r U U' V V' h1 hal h2 h) ?_
  intro p e s m args below meth c s₁ X0 hexec hbytes hml hret hlk hnm hown hh0 W hP
  obtain ⟨rfl, hx, hy, s1, hz⟩ := hP
  have c1 : Steps p.tables e below (s₁.setTop (entryFrame m #[.ref x, .ref y] 3)) (s₁.setTop (mkF m 2 #[.val (.ref x), .val (.ref y), .unset] [.ref y, .ref x])) := Steps.trans (entry rfl) (by
    show Steps p.tables e below (s₁.setTop (mkF m 0 #[.val (.ref x), .val (.ref y), .unset] [])) _
    refine XS.aloadN X0.here hexec rfl (hb hbytes d0) rfl rfl ?_
    refine XS.aloadN X0.here hexec rfl (hb hbytes d1) rfl rfl ?_
    exact Steps.refl _)
  by_cases hxy : x = y
  · have c2 : Steps p.tables e below (s₁.setTop (entryFrame m #[.ref x, .ref y] 3)) (s₁.setTop (mkF m 6 #[.val (.ref x), .val (.ref y), .unset] [.int 1])) := c1.trans (by
      refine acmpNo X0.here hexec rfl (hb hbytes d2) rfl rfl rfl (by simp [acmp, hxy]) ?_
      refine iconstV X0.here hexec rfl 1 (hb hbytes d5) (by decide) ?_
      exact Steps.refl _)
    subst hxy
    have ec : cd = cd' := by
      obtain ⟨D, fd, a1, a2, a3⟩ := hx.2.2.1
      obtain ⟨D', fd', b1, b2, b3⟩ := hy.2.2.1
      cases a1.symm.trans b1
      obtain ⟨q1, q2, q3, q4⟩ := a2.1
      obtain ⟨r1, r2, r3, r4⟩ := b2.1
      cases q4.symm.trans r4
      cases a3.symm.trans b3; rfl
    have et : t = t' := by
      obtain ⟨D, fd, a1, a2, a3⟩ := hx.2.1
      obtain ⟨D', fd', b1, b2, b3⟩ := hy.2.1
      cases a1.symm.trans b1
      obtain ⟨q1, q2, q3, q4⟩ := a2.1
      obtain ⟨r1, r2, r3, r4⟩ := b2.1
      cases q4.symm.trans r4
      cases a3.symm.trans b3; rfl
    subst ec et
    have ev : V = V' := by cases hx.2.2.2.1.1.symm.trans hy.2.2.2.1.1; rfl
    subst ev
    have hs : SameT n f k g := (Cod.eqv hx.2.2.2.2.1 hy.2.2.2.2.1 hx.2.2.2.2.2 hy.2.2.2.2.2).mp ⟨rfl, fun _ _ => rfl⟩
    exact ⟨s₁, some (.int 1), _, _, _, X0, rfl, rfl, rfl, (fun h => by cases h), ⟨1, rfl, hh0, Or.inl ⟨rfl, hs⟩⟩, fun fs hl => c2.trans (X0.ireturnOut hexec hret rfl (Or.inr (Or.inl rfl)) (hb hbytes d6) hl)⟩
  · have c2 : Steps p.tables e below (s₁.setTop (entryFrame m #[.ref x, .ref y] 3)) (s₁.setTop (mkF m 8 #[.val (.ref x), .val (.ref y), .unset] [.ref y])) := c1.trans (by
      refine acmpYes X0.here hexec rfl (pc0 := 2) rfl (hb hbytes d2) rfl rfl rfl (by simp [acmp, hxy]) (by decide) rfl ?_
      refine XS.aloadN X0.here hexec rfl (hb hbytes d7) rfl rfl ?_
      exact Steps.refl _)
    obtain ⟨T3, X3, q3, st3⟩ := cinst X0 hexec hown (wk W (.classLink "java/lang/String" 10 "java/lang/String")) (hy.mv X0.warmed.alike hh0).1 (g := (mkF m 8 #[.val (.ref x), .val (.ref y), .unset] [.ref y])) rfl (rest := []) rfl (hb hbytes d8)
    have hh3 := q3.trans hh0
    have c4 : Steps p.tables e below (s₁.setTop (entryFrame m #[.ref x, .ref y] 3)) (T3.setTop (mkF m 15 #[.val (.ref x), .val (.ref y), .unset] [.ref y])) := (c2.trans (st3 _ (Steps.refl _))).trans (by
      refine XS.ifNo X3.here hexec rfl (hb hbytes d11) rfl (i0_eq_f (by decide)) ?_
      refine XS.aloadN X3.here hexec rfl (hb hbytes d14) rfl rfl ?_
      exact Steps.refl _)
    obtain ⟨T5, X5, q5, st5⟩ := cself X3 hexec hown (wk W (.classLink "java/lang/String" 10 "java/lang/String")) (hy.mv X3.warmed.alike hh3).1 (g := (mkF m 15 #[.val (.ref x), .val (.ref y), .unset] [.ref y])) rfl (rest := []) rfl (hb hbytes d15)
    have hh5 := q5.trans hh3
    have c6 : Steps p.tables e below (s₁.setTop (entryFrame m #[.ref x, .ref y] 3)) (T5.setTop (mkF m 19 #[.val (.ref x), .val (.ref y), .val (.ref y)] [])) := (c4.trans (st5 _ (Steps.refl _))).trans (by
      refine XS.astoreN X5.here hexec rfl (hb hbytes d18) rfl rfl rfl ?_
      exact Steps.refl _)
    obtain ⟨T7, X7, q7, st7⟩ := X5.sget hexec hown (wk W (.fieldLink "java/lang/String" 38 "java/lang/String" "COMPACT_STRINGS" "Z")) s1 (fun _ _ h => by rw [hh5]; exact h) (g := (mkF m 19 #[.val (.ref x), .val (.ref y), .val (.ref y)] [])) rfl (hb hbytes d19)
    have hh7 := q7.trans hh5
    have c8 : Steps p.tables e below (s₁.setTop (entryFrame m #[.ref x, .ref y] 3)) (T7.setTop (mkF m 26 #[.val (.ref x), .val (.ref y), .val (.ref y)] [.ref x])) := (c6.trans (st7 _ (Steps.refl _))).trans (by
      refine XS.ifNo X7.here hexec rfl (hb hbytes d22) rfl (i0_eq_f hz) ?_
      refine XS.aloadN X7.here hexec rfl (hb hbytes d25) rfl rfl ?_
      exact Steps.refl _)
    obtain ⟨T9, X9, q9, st9⟩ := X7.hget hexec hown (wk W (.fieldLink "java/lang/String" 15 "java/lang/String" "coder" "B")) (hx.mv X7.warmed.alike hh7).2.2.1 (g := (mkF m 26 #[.val (.ref x), .val (.ref y), .val (.ref y)] [.ref x])) rfl (rest := []) rfl (hb hbytes d26)
    have hh9 := q9.trans hh7
    have c10 : Steps p.tables e below (s₁.setTop (entryFrame m #[.ref x, .ref y] 3)) (T9.setTop (mkF m 30 #[.val (.ref x), .val (.ref y), .val (.ref y)] [.ref y, .int cd])) := (c8.trans (st9 _ (Steps.refl _))).trans (by
      refine XS.aloadN X9.here hexec rfl (hb hbytes d29) rfl rfl ?_
      exact Steps.refl _)
    obtain ⟨T11, X11, q11, st11⟩ := X9.hget hexec hown (wk W (.fieldLink "java/lang/String" 15 "java/lang/String" "coder" "B")) (hy.mv X9.warmed.alike hh9).2.2.1 (g := (mkF m 30 #[.val (.ref x), .val (.ref y), .val (.ref y)] [.ref y, .int cd])) rfl (rest := [.int cd]) rfl (hb hbytes d30)
    have hh11 := q11.trans hh9
    have c12 : Steps p.tables e below (s₁.setTop (entryFrame m #[.ref x, .ref y] 3)) (T11.setTop (mkF m 33 #[.val (.ref x), .val (.ref y), .val (.ref y)] [.int cd', .int cd])) := c10.trans (st11 _ (Steps.refl _))
    by_cases hcd : cd = cd'
    · subst hcd
      have c13 : Steps p.tables e below (s₁.setTop (entryFrame m #[.ref x, .ref y] 3)) (T11.setTop (mkF m 37 #[.val (.ref x), .val (.ref y), .val (.ref y)] [.ref x])) := c12.trans (by
        refine XS.icmpNo X11.here hexec rfl (hb hbytes d33) rfl (ii_ne_f rfl) ?_
        refine XS.aloadN X11.here hexec rfl (hb hbytes d36) rfl rfl ?_
        exact Steps.refl _)
      obtain ⟨T14, X14, q14, st14⟩ := X11.hget hexec hown (wk W (.fieldLink "java/lang/String" 9 "java/lang/String" "value" "[B")) (hx.mv X11.warmed.alike hh11).2.1 (g := (mkF m 37 #[.val (.ref x), .val (.ref y), .val (.ref y)] [.ref x])) rfl (rest := []) rfl (hb hbytes d37)
      have hh14 := q14.trans hh11
      have c15 : Steps p.tables e below (s₁.setTop (entryFrame m #[.ref x, .ref y] 3)) (T14.setTop (mkF m 41 #[.val (.ref x), .val (.ref y), .val (.ref y)] [.ref y, .ref t])) := (c13.trans (st14 _ (Steps.refl _))).trans (by
        refine XS.aloadN X14.here hexec rfl (hb hbytes d40) rfl rfl ?_
        exact Steps.refl _)
      obtain ⟨T16, X16, q16, st16⟩ := X14.hget hexec hown (wk W (.fieldLink "java/lang/String" 9 "java/lang/String" "value" "[B")) (hy.mv X14.warmed.alike hh14).2.1 (g := (mkF m 41 #[.val (.ref x), .val (.ref y), .val (.ref y)] [.ref y, .ref t])) rfl (rest := [.ref t]) rfl (hb hbytes d41)
      have hh16 := q16.trans hh14
      have c17 : Steps p.tables e below (s₁.setTop (entryFrame m #[.ref x, .ref y] 3)) (T16.setTop (mkF m 44 #[.val (.ref x), .val (.ref y), .val (.ref y)] [.ref t', .ref t])) := c15.trans (st16 _ (Steps.refl _))
      obtain ⟨v18, T18, X18, E18, g18⟩ := X16.callS hexec (LEq.law l t V t' V') hown (wks W (staticW "java/lang/String" 541 LEq.yN)) (wk W LEq.tab) (W := 0) (Nat.le_of_ble_eq_true rfl) (Nat.le_of_ble_eq_true rfl) (Nat.le_refl _) (Nat.le_refl _) (g := (mkF m 44 #[.val (.ref x), .val (.ref y), .val (.ref y)] [.ref t', .ref t])) rfl (by rw [hml]; rfl) c17 (argsL := [.ref t, .ref t']) (rest := []) rfl rfl (by show 2 * 0 + 0 ≤ _; decide) (hb hbytes d44) (⟨rfl, hx.2.2.2.1.mv X16.warmed.alike hh16, hx.2.2.2.2.1.ty, hy.2.2.2.1.mv X16.warmed.alike hh16, hy.2.2.2.2.1.ty⟩)
      obtain ⟨v, rfl, q18, hv⟩ := E18
      have iff := Cod.eqv hx.2.2.2.2.1 hy.2.2.2.2.1 hx.2.2.2.2.2 hy.2.2.2.2.2
      rcases hv with ⟨rfl, he⟩ | ⟨rfl, he⟩
      · have c19 : Steps p.tables e below (s₁.setTop (entryFrame m #[.ref x, .ref y] 3)) (T18.setTop (mkF m 55 #[.val (.ref x), .val (.ref y), .val (.ref y)] [.int 1])) := Steps.trans g18 (by
          refine XS.ifNo X18.here hexec rfl (hb hbytes d47) rfl (i0_eq_f (by decide)) ?_
          refine iconstV X18.here hexec rfl 1 (hb hbytes d50) (by decide) ?_
          refine XS.goto X18.here hexec rfl (pc0 := 51) rfl (hb hbytes d51) (by decide) rfl ?_
          exact Steps.refl _)
        exact ⟨T18, some (.int 1), _, _, _, X18, rfl, rfl, rfl, (fun h => by cases h), ⟨1, rfl, q18.trans hh16, Or.inl ⟨rfl, iff.mp he⟩⟩, fun fs hl => c19.trans (X18.ireturnOut hexec hret rfl (Or.inr (Or.inl rfl)) (hb hbytes d55) hl)⟩
      · have c19 : Steps p.tables e below (s₁.setTop (entryFrame m #[.ref x, .ref y] 3)) (T18.setTop (mkF m 55 #[.val (.ref x), .val (.ref y), .val (.ref y)] [.int 0])) := Steps.trans g18 (by
          refine XS.ifYes X18.here hexec rfl (pc0 := 47) rfl (hb hbytes d47) rfl (i0_eq_t rfl) (by decide) rfl ?_
          refine iconstV X18.here hexec rfl 0 (hb hbytes d54) (by decide) ?_
          exact Steps.refl _)
        exact ⟨T18, some (.int 0), _, _, _, X18, rfl, rfl, rfl, (fun h => by cases h), ⟨0, rfl, q18.trans hh16, Or.inr ⟨rfl, fun q => he (iff.mpr q)⟩⟩, fun fs hl => c19.trans (X18.ireturnOut hexec hret rfl (Or.inr (Or.inl rfl)) (hb hbytes d55) hl)⟩
    · have c13 : Steps p.tables e below (s₁.setTop (entryFrame m #[.ref x, .ref y] 3)) (T11.setTop (mkF m 55 #[.val (.ref x), .val (.ref y), .val (.ref y)] [.int 0])) := c12.trans (by
        refine XS.icmpYes X11.here hexec rfl (pc0 := 33) rfl (hb hbytes d33) rfl (ii_ne_t hcd) (by decide) rfl ?_
        refine iconstV X11.here hexec rfl 0 (hb hbytes d54) (by decide) ?_
        exact Steps.refl _)
      exact ⟨T11, some (.int 0), _, _, _, X11, rfl, rfl, rfl, (fun h => by cases h), ⟨0, rfl, hh11, Or.inr ⟨rfl, Cod.dif hx.2.2.2.2.1 hy.2.2.2.2.1 hcd⟩⟩, fun fs hl => c13.trans (X11.ireturnOut hexec hret rfl (Or.inr (Or.inl rfl)) (hb hbytes d55) hl)⟩
theorem pays {l : Launch} {R : Room} {p : Program} {e : Env} {below : List Frame} {s : State} {sargs : Array Value} {len W : Nat} (x t : Addr) (V : Cell) (cd : Int32) (n : Nat) (f : Nat → Int32) (y t' : Addr) (V' : Cell) (cd' : Int32) (k : Nat) (g : Nat → Int32) (z : Int32) (htab : tab.before sargs s = true) (hfr : 2 ≤ R.frames) (hlo : W + 28 ≤ R.locals) :
    Back l R p e below s sargs yN len W (fun A₁ a₁ => A₁.cells + 0 ≤ R.cells ∧ A₁.slots + 0 ≤ R.slots ∧ P x t V cd n f y t' V' cd' k g z a₁ A₁.U) (fun A₁ _ v₁ B₁ => Says01 (SameT n f k g) v₁ A₁.U B₁.U ∧ B₁.locs = A₁.locs ++ [] ∧ B₁.cells = A₁.cells + 0 ∧ B₁.slots = A₁.slots + 0) :=
  (law l x t V cd n f y t' V' cd' k g z).pays htab hfr (by omega)
end SEq
end StrChars
namespace StrChars.Road
open Jvm Sem ClassFile Op Lib Jvm.Stand Jvm.Free Jvm.Free.XT
open Jvm.Lib.Cold (StaticIs)
/-- the words of String.equals(Object) -/
abbrev wordsEq : List Jvm.Cond := [.code SEq.yN SEq.yB 3 (some .boolean), .initialized ST, .classLink ST 10 ST, .fieldLink ST 38 ST "COMPACT_STRINGS" "Z", .fieldLink ST 15 ST "coder" "B", .fieldLink ST 9 ST "value" "[B", .methodLink ST 541 LEq.yN, .static LEq.yN, .code LEq.yN LEq.yB 3 (some .boolean), .initialized "java/lang/StringLatin1"]
theorem tabEq_of {a : Array Value} {s : State} (h : ∀ w ∈ wordsEq, w.before a s = true) : SEq.tab.before a s = true := by
  have hl : LEq.tab.before a s = true := unparts (wk h (.code LEq.yN LEq.yB 3 (some .boolean))) (wks h (.initialized LEq.yN.cls :: LEq.site))
  have q := consq hl h
  exact unparts (wk q (.code SEq.yN SEq.yB 3 (some .boolean))) (wks q (.initialized SEq.yN.cls :: SEq.site))
theorem movedEq {Z s : State} {a0 args : Array Value} (hZ : Z.Warmed39 s.vm) (hw : ∀ d ∈ wordsEq, d.before a0 Z = true) : ∀ d ∈ wordsEq, d.before args s = true := fun d hd => by
  have t : ∀ d ∈ wordsEq, (d.onTables && d.keepsFace) = true := by decide +kernel
  exact RoadKit.mv hZ (hw d hd) (t d hd)
/-- the road's facts of a String, as the laws ask it -/
theorem txt_of {Z U : State} {a0 : Array Value} {kI : Nat} (wi : (Jvm.Cond.instantiable ST kI).before a0 Z = true) (al : Z.vm.Alike U.vm) {x t : Addr} {kb : ClassId} {cs : List Int32} {cd N2 : Int32} {vs : List Value} (E : RoadKit.Exa Z U.heap x ST) (V : RoadKit.Fld Z U.heap x ST "value" "[B" (.ref t)) (C : RoadKit.Fld Z U.heap x ST "coder" "B" (.int cd)) (K : RoadKit.Arv Z U.heap t kb .byte N2 vs (.int 0)) (hc : CodA cs cd N2 vs) (hb : ∀ c ∈ cs, ¬ c < 0 ∧ ¬ (65535 : Int32) < c) (l2 : cs.length ≤ 4000) :
    ∃ A, Txt x t A cd cs.length (fun j => cs.getD j 0) U := by
  obtain ⟨A, K1, K2, K3, K4, K5, K6⟩ := K
  have hcod := hc.cod (by omega) K3 K5
  obtain ⟨D, fV, fC, hB, F1, F2, g1, g2, -, -⟩ := strObj wi al E V C
  exact ⟨A, ⟨_, hB.2.2.1, D, hB.1, rfl, by cases q : D.vm <;> first | rfl | exact absurd q (hB.2.1.2 _)⟩, Has.of hB F1 g1, Has.of hB F2 g2, ⟨K1.1, State.isArrayOf_alike al K1.2.1, K1.2.2, by rcases hcod with ⟨-, q, -⟩ | ⟨-, q, -⟩ <;> omega⟩, hcod, fun j hj => by
    have e : cs.getD j 0 = cs[j] := by simp [List.getD_eq_getElem?_getD, hj]
    show ¬ cs.getD j 0 < 0 ∧ ¬ 65535 < cs.getD j 0
    rw [e]; exact hb _ (List.getElem_mem _)⟩
theorem same_list (cs ds : List Int32) : SameT cs.length (fun j => cs.getD j 0) ds.length (fun j => ds.getD j 0) ↔ cs = ds := by
  constructor
  · rintro ⟨e, q⟩
    refine List.ext_getElem e fun j h1 h2 => ?_
    have := q j h1
    simpa [List.getD_eq_getElem?_getD, h1, h2] using this
  · rintro rfl
    exact ⟨rfl, fun _ _ => rfl⟩
/-- **equals(Object) OF TWO SUCH STRINGS**: 1 just where the chars are the same -/
theorem eqW {p : Program} {l : Launch} {e : Env} {R : Room} {s : State} {args : Array Value} {below : List Frame} {len W : Nat} {Z : State} {a0 : Array Value} {h : Heap} (hZ : Z.Warmed39 s.vm) (hw : ∀ d ∈ wordsEq, d.before a0 Z = true) {kI : Nat} (wi : (Jvm.Cond.instantiable ST kI).before a0 Z = true)
    {x t : Addr} {kb : ClassId} {cs : List Int32} {cd N2 : Int32} {vs : List Value} (E : RoadKit.Exa Z h x ST) (V : RoadKit.Fld Z h x ST "value" "[B" (.ref t)) (C : RoadKit.Fld Z h x ST "coder" "B" (.int cd)) (K : RoadKit.Arv Z h t kb .byte N2 vs (.int 0)) (hc : CodA cs cd N2 vs) (hb : ∀ c ∈ cs, ¬ c < 0 ∧ ¬ (65535 : Int32) < c) (l2 : cs.length ≤ 4000)
    {y t' : Addr} {kb' : ClassId} {ds : List Int32} {cd' N2' : Int32} {vs' : List Value} (E' : RoadKit.Exa Z h y ST) (V' : RoadKit.Fld Z h y ST "value" "[B" (.ref t')) (C' : RoadKit.Fld Z h y ST "coder" "B" (.int cd')) (K' : RoadKit.Arv Z h t' kb' .byte N2' vs' (.int 0)) (hc' : CodA ds cd' N2' vs') (hb' : ∀ c ∈ ds, ¬ c < 0 ∧ ¬ (65535 : Int32) < c) (l2' : ds.length ≤ 4000)
    {z : Int32} (S : RoadKit.Sta Z h ST "COMPACT_STRINGS" "Z" (.int z)) (hz : ¬ z = 0) (hfr : 2 ≤ R.frames) (hlo : W + 28 ≤ R.locals) :
    Back l R p e below s args (⟨"java/lang/String", "equals", "(Ljava/lang/Object;)Z"⟩ : MethodName) len W (fun P a => a = #[.ref x, .ref y] ∧ P.U.heap = h ∧ P.cells + 0 ≤ R.cells ∧ P.slots + 0 ≤ R.slots)
      (fun P _ v B => ∃ L, (((v = some (.int 1) ∧ cs = ds) ∨ (v = some (.int 0) ∧ ¬ cs = ds)) ∧ L = [] ∧ B.U.heap = h) ∧ B.locs = P.locs ++ L ∧ B.cells = P.cells + 0 ∧ B.slots = P.slots + 0) := by
  intro m meth c P g ig mk a X hg hsize hdg hW hn hp'
  obtain ⟨rfl, rfl, r1, r2⟩ := hp'
  have al : Z.vm.Alike P.U.vm := hZ.alike.trans X.warmed.alike
  obtain ⟨A, hx⟩ := txt_of wi al E V C K hc hb l2
  obtain ⟨A', hy⟩ := txt_of wi al E' V' C' K' hc' hb' l2'
  obtain ⟨v, B, X', ⟨⟨w, hv, hh, hq⟩, hl, hk, hs⟩, st⟩ := SEq.pays x t A cd cs.length (fun j => cs.getD j 0) y t' A' cd' ds.length (fun j => ds.getD j 0) z (tabEq_of (movedEq hZ hw)) hfr hlo m meth c P g ig mk _ X hg hsize hdg hW hn ⟨r1, r2, rfl, hx, hy, sta_is al S, hz⟩
  refine ⟨v, B, X', ⟨[], ⟨?_, rfl, hh⟩, hl, hk, hs⟩, st⟩
  rcases hq with ⟨rfl, q⟩ | ⟨rfl, q⟩
  · exact Or.inl ⟨hv, (same_list cs ds).mp q⟩
  · exact Or.inr ⟨hv, fun e => q ((same_list cs ds).mpr e)⟩
end StrChars.Road
namespace StrChars
open Jvm Sem ClassFile Op Lib Jvm.Stand Jvm.Free.XT Jvm.Free.ALB Jvm.Free.JM Jvm.Free
open Jvm.Lib.Cold (StaticIs)
namespace ChN
def yN : MethodName := ⟨"java/lang/String", "charAt", "(I)C"⟩
abbrev yB : ByteArray := jdk_42_method_56_code
theorem d0 : decode yB 0 = .ok (.aload_n 0, 1) := by decide +kernel
theorem d1 : decode yB 1 = .ok (.invokevirtual 492, 3) := by decide +kernel
theorem d4 : decode yB 4 = .ok (.ifCond (.eq) 12, 3) := by decide +kernel
theorem d7 : decode yB 7 = .ok (.aload_n 0, 1) := by decide +kernel
theorem d8 : decode yB 8 = .ok (.getfield 9, 3) := by decide +kernel
theorem d11 : decode yB 11 = .ok (.iload_n 1, 1) := by decide +kernel
theorem d12 : decode yB 12 = .ok (.invokestatic 495, 3) := by decide +kernel
theorem d15 : decode yB 15 = .ok (.ireturn, 1) := by decide +kernel
def site : List Cond := [.fieldLink "java/lang/String" 9 "java/lang/String" "value" "[B", IsL.tab, LChA.tab] ++ virtW "java/lang/String" 492 "java/lang/String" IsL.yN IsL.yN ++ staticW "java/lang/String" 495 LChA.yN
def tab : Cond := tabOf yN yB 2 (some .char) site
def P (x t : Addr) (V : Cell) (n : Nat) (f : Nat → Int32) (z : Int32) (fm : Value) (i : Nat) (args : Array Value) (s : State) : Prop := args = #[.ref x, .int (Int32.ofNat i)] ∧ Txt x t V 0 n f s ∧ i < n ∧ StaticIs s "java/lang/String" "COMPACT_STRINGS" "Z" (.int z) ∧ ¬ z = 0 ∧ StaticIs s "jdk/internal/util/Preconditions" "SIOOBE_FORMATTER" "Ljava/util/function/BiFunction;" fm ∧ fm.isRef = true
def E (f : Nat → Int32) (i : Nat) (r : Option Value) (s u : State) : Prop := XT.PureE (some (.int (f i))) r s u
/-- charAt(i) of a Latin-1 String of n chars, i < n: f i -/
theorem law (l : Launch) (x t : Addr) (V : Cell) (n : Nat) (f : Nat → Int32) (z : Int32) (fm : Value) (i : Nat) : Law l yN 2 1 3 40 yB 2 (some .char) site (P x t V n f z fm i) (E f i) [] 0 0 := by
  refine Law.of_walk (plainFor_of_name (by decide +kernel)) (by decide +kernel) (by decide +kernel) (by decide) (fun _ _ h => by rw [h.1]; rfl) (fun _ U U' hal hh h => ⟨h.1, h.2.1.mv hal hh, h.2.2.1, h.2.2.2.1.there hal hh, h.2.2.2.2.1, h.2.2.2.2.2.1.there hal hh, h.2.2.2.2.2.2⟩) (fun r U U' V V' h1 hal h2 h => XT.PureE.mv r U U' V V' h1 hal h2 h) ?_
  intro p e s m args below meth c s₁ X0 hexec hbytes hml hret hlk hnm hown hh0 W hP
  obtain ⟨rfl, hx, hi, s1, hz, s3, rf⟩ := hP
  have v31 := hx.2.2.2.1.2.2.2
  have hr := hx.2.2.2.2.2 i hi
  have hx0 := hx.mv X0.warmed.alike hh0
  have c1 : Steps p.tables e below (s₁.setTop (entryFrame m #[.ref x, .int (Int32.ofNat i)] 2)) (s₁.setTop (mkF m 1 #[.val (.ref x), .val (.int (Int32.ofNat i))] [.ref x])) := Steps.trans (entry rfl) (by
    show Steps p.tables e below (s₁.setTop (mkF m 0 #[.val (.ref x), .val (.int (Int32.ofNat i))] [])) _
    refine XS.aloadN X0.here hexec rfl (hb hbytes d0) rfl rfl ?_
    exact Steps.refl _)
  obtain ⟨v2, T2, X2, E2, g2⟩ := X0.callV hexec (IsL.law l x 0 z) hown (wks W (virtW "java/lang/String" 492 "java/lang/String" IsL.yN IsL.yN)) rfl (by decide) (wk W IsL.tab) (W := 0) (Nat.le_of_ble_eq_true rfl) (Nat.le_of_ble_eq_true rfl) (Nat.le_refl _) (Nat.le_refl _) (hx0.1.fc X0.warmed.alike) hx0.1.is (g := (mkF m 1 #[.val (.ref x), .val (.int (Int32.ofNat i))] [.ref x])) rfl (by rw [hml]; rfl) c1 (argsL := []) (rest := []) rfl rfl (by show 2 * 0 + 0 ≤ _; decide) (hb hbytes d1) (⟨rfl, hx0.2.2.1, hx.2.2.2.2.1.cd, s1.there X0.warmed.alike hh0, hz⟩)
  obtain ⟨rfl, q2⟩ := E2
  have hh2 := q2.trans hh0
  have hx2 := hx.mv X2.warmed.alike hh2
  obtain ⟨-, k1, k2⟩ | ⟨k0, -⟩ := hx.2.2.2.2.1
  · have c3 : Steps p.tables e below (s₁.setTop (entryFrame m #[.ref x, .int (Int32.ofNat i)] 2)) (T2.setTop (mkF m 8 #[.val (.ref x), .val (.int (Int32.ofNat i))] [.ref x])) := Steps.trans g2 (by
      refine XS.ifNo X2.here hexec rfl (hb hbytes d4) rfl (i0_eq_f (by decide)) ?_
      refine XS.aloadN X2.here hexec rfl (hb hbytes d7) rfl rfl ?_
      exact Steps.refl _)
    obtain ⟨T4, X4, q4, st4⟩ := X2.hget hexec hown (wk W (.fieldLink "java/lang/String" 9 "java/lang/String" "value" "[B")) hx2.2.1 (g := (mkF m 8 #[.val (.ref x), .val (.int (Int32.ofNat i))] [.ref x])) rfl (rest := []) rfl (hb hbytes d8)
    have hh4 := q4.trans hh2
    have c5 : Steps p.tables e below (s₁.setTop (entryFrame m #[.ref x, .int (Int32.ofNat i)] 2)) (T4.setTop (mkF m 12 #[.val (.ref x), .val (.int (Int32.ofNat i))] [.int (Int32.ofNat i), .ref t])) := (c3.trans (st4 _ (Steps.refl _))).trans (by
      refine XS.iloadN X4.here hexec rfl (hb hbytes d11) rfl ?_
      exact Steps.refl _)
    obtain ⟨v6, T6, X6, E6, g6⟩ := X4.callS hexec (LChA.law l t V i (lo8 (f i)) fm) hown (wks W (staticW "java/lang/String" 495 LChA.yN)) (wk W LChA.tab) (W := 0) (Nat.le_of_ble_eq_true rfl) (Nat.le_of_ble_eq_true rfl) (Nat.le_refl _) (Nat.le_refl _) (g := (mkF m 12 #[.val (.ref x), .val (.int (Int32.ofNat i))] [.int (Int32.ofNat i), .ref t])) rfl (by rw [hml]; rfl) c5 (argsL := [.ref t, .int (Int32.ofNat i)]) (rest := []) rfl rfl (by show 2 * 0 + 0 ≤ _; decide) (hb hbytes d12) (⟨rfl, hx.2.2.2.1.mv X4.warmed.alike hh4, (k2 i hi).1, s3.there X4.warmed.alike hh4, rf⟩)
    obtain ⟨rfl, q6⟩ := E6
    rw [chr8_lo8 hr.1 (k2 i hi).2] at g6
    exact ⟨T6, some (.int (f i)), _, _, _, X6, rfl, rfl, rfl, (fun h => by cases h), ⟨rfl, q6.trans hh4⟩, fun fs hl => Steps.trans g6 (X6.ireturnOut hexec hret (narrow_ch hr.1 hr.2) (Or.inr (Or.inr (Or.inr (Or.inl rfl)))) (hb hbytes d15) hl)⟩
  · exact absurd k0 (by decide)
theorem pays {l : Launch} {R : Room} {p : Program} {e : Env} {below : List Frame} {s : State} {sargs : Array Value} {len W : Nat} (x t : Addr) (V : Cell) (n : Nat) (f : Nat → Int32) (z : Int32) (fm : Value) (i : Nat) (htab : tab.before sargs s = true) (hfr : 4 ≤ R.frames) (hlo : W + 53 ≤ R.locals) :
    Back l R p e below s sargs yN len W (fun A₁ a₁ => A₁.cells + 0 ≤ R.cells ∧ A₁.slots + 0 ≤ R.slots ∧ P x t V n f z fm i a₁ A₁.U) (fun A₁ _ v₁ B₁ => E f i v₁ A₁.U B₁.U ∧ B₁.locs = A₁.locs ++ [] ∧ B₁.cells = A₁.cells + 0 ∧ B₁.slots = A₁.slots + 0) :=
  (law l x t V n f z fm i).pays htab hfr (by omega)
end ChN
end StrChars
namespace StrChars.Road
open Jvm Sem ClassFile Op Lib Jvm.Stand Jvm.Free Jvm.Free.XT
open Jvm.Lib.Cold (StaticIs)
/-- the words of String.charAt(int), the Latin-1 road alone -/
abbrev wordsChN : List Jvm.Cond := [.code ChN.yN ChN.yB 2 (some .char), .initialized ST, .fieldLink ST 9 ST "value" "[B", .fieldLink ST 38 ST "COMPACT_STRINGS" "Z", .fieldLink ST 15 ST "coder" "B", .code IsL.yN IsL.yB 1 (some .boolean), .methodLink ST 492 IsL.yN, .declares IsL.yN, .selects ST IsL.yN IsL.yN, .instanceMethod IsL.yN,
  .methodLink ST 495 LChA.yN, .static LChA.yN, .code LChA.yN LChA.yB 2 (some .char), .initialized "java/lang/StringLatin1", .methodLink "java/lang/StringLatin1" 9 JO.Str_checkIndex.yN, .static JO.Str_checkIndex.yN, .code JO.Str_checkIndex.yN JO.Str_checkIndex.yB 2 none,
  .fieldLink ST 1053 "jdk/internal/util/Preconditions" "SIOOBE_FORMATTER" "Ljava/util/function/BiFunction;", .methodLink ST 1059 JC.PreCheck.yN, .static JC.PreCheck.yN, .code JC.PreCheck.yN JC.PreCheck.yB 3 (some .int), .initialized "jdk/internal/util/Preconditions"]
theorem tabChN_of {a : Array Value} {s : State} (h : ∀ w ∈ wordsChN, w.before a s = true) : ChN.tab.before a s = true := by
  have hp : JC.PreCheck.tab.before a s = true := unparts (wk h (.code JC.PreCheck.yN JC.PreCheck.yB 3 (some .int))) (wks h (.initialized JC.PreCheck.yN.cls :: JC.PreCheck.site))
  have qk := consq hp h
  have hk : JO.Str_checkIndex.tab.before a s = true := unparts (wk qk (.code JO.Str_checkIndex.yN JO.Str_checkIndex.yB 2 none)) (wks qk (.initialized JO.Str_checkIndex.yN.cls :: JO.Str_checkIndex.site))
  have ql := consq hk h
  have hl : LChA.tab.before a s = true := unparts (wk ql (.code LChA.yN LChA.yB 2 (some .char))) (wks ql (.initialized LChA.yN.cls :: LChA.site))
  have hi : IsL.tab.before a s = true := unparts (wk h (.code IsL.yN IsL.yB 1 (some .boolean))) (wks h (.initialized IsL.yN.cls :: IsL.site))
  have q := consq hi (consq hl h)
  exact unparts (wk q (.code ChN.yN ChN.yB 2 (some .char))) (wks q (.initialized ChN.yN.cls :: ChN.site))
theorem movedChN {Z s : State} {a0 args : Array Value} (hZ : Z.Warmed39 s.vm) (hw : ∀ d ∈ wordsChN, d.before a0 Z = true) : ∀ d ∈ wordsChN, d.before args s = true := fun d hd => by
  have t : ∀ d ∈ wordsChN, (d.onTables && d.keepsFace) = true := by decide +kernel
  exact RoadKit.mv hZ (hw d hd) (t d hd)
/-- **charAt(i) OF A LATIN-1 STRING**, i < n: the char -/
theorem chN {p : Program} {l : Launch} {e : Env} {R : Room} {s : State} {args : Array Value} {below : List Frame} {len W : Nat} {Z : State} {a0 : Array Value} {h : Heap} (hZ : Z.Warmed39 s.vm) (hw : ∀ d ∈ wordsChN, d.before a0 Z = true) {kI : Nat} (wi : (Jvm.Cond.instantiable ST kI).before a0 Z = true)
    {x t : Addr} {kb : ClassId} {cs : List Int32} {N2 z : Int32} {vs : List Value} {fm : Value} {i : Nat} {j : Int32} (E : RoadKit.Exa Z h x ST) (V : RoadKit.Fld Z h x ST "value" "[B" (.ref t)) (C : RoadKit.Fld Z h x ST "coder" "B" (.int 0)) (K : RoadKit.Arv Z h t kb .byte N2 vs (.int 0)) (hc : CodA cs 0 N2 vs) (hb : ∀ c ∈ cs, ¬ c < 0 ∧ ¬ (65535 : Int32) < c)
    (S : RoadKit.Sta Z h ST "COMPACT_STRINGS" "Z" (.int z)) (hz : ¬ z = 0) (F : RoadKit.Sta Z h "jdk/internal/util/Preconditions" "SIOOBE_FORMATTER" "Ljava/util/function/BiFunction;" fm) (rf : fm.isRef = true) (l2 : cs.length ≤ 4000) (hi : i < cs.length) (hj : j = Int32.ofNat i) (hfr : 4 ≤ R.frames) (hlo : W + 53 ≤ R.locals) :
    Back l R p e below s args (⟨"java/lang/String", "charAt", "(I)C"⟩ : MethodName) len W (fun P a => a = #[.ref x, .int j] ∧ P.U.heap = h ∧ P.cells + 0 ≤ R.cells ∧ P.slots + 0 ≤ R.slots)
      (fun P _ v B => ∃ L, (v = some (.int (cs.getD i 0)) ∧ L = [] ∧ B.U.heap = h) ∧ B.locs = P.locs ++ L ∧ B.cells = P.cells + 0 ∧ B.slots = P.slots + 0) := by
  subst hj
  intro m meth c P g ig mk a X hg hsize hdg hW hn hp'
  obtain ⟨rfl, rfl, r1, r2⟩ := hp'
  have al : Z.vm.Alike P.U.vm := hZ.alike.trans X.warmed.alike
  obtain ⟨A, hx⟩ := txt_of wi al E V C K hc hb l2
  obtain ⟨v, B, X', ⟨⟨hv, hh⟩, hl, hk, hs⟩, st⟩ := ChN.pays x t A cs.length (fun j => cs.getD j 0) z fm i (tabChN_of (movedChN hZ hw)) hfr hlo m meth c P g ig mk _ X hg hsize hdg hW hn ⟨r1, r2, rfl, hx, hi, sta_is al S, hz, sta_is al F, rf⟩
  exact ⟨v, B, X', ⟨[], ⟨hv, rfl, hh⟩, hl, hk, hs⟩, st⟩
/-- what backV says of its String, as the contracts of this text ask it: cs's low bytes, coder 0 -/
theorem codOf {cs : List Int32} {n : Nat} (hn : cs.length = n) (hb : ∀ c ∈ cs, ¬ 255 < c) : CodA cs 0 (Int32.ofNat n) ((cs.map lo8).map Value.int) := Or.inl ⟨rfl, by rw [hn], by simp [List.map_map, Function.comp_def], hb⟩
end StrChars.Road
end Jvm.Pilot.@@N@@
namespace Jvm.Pilot.@@N@@
open Jvm Jvm.ClassFile Sem Op Lib Jvm.Free Jvm.Stand Jvm.LawKit Jvm.RoadKit Bundle Jvm.Pilot.@@N@@.Jvm.D
namespace Ow
/-! A small logic of walks: Wq says: from every state that stands at pc with these locals, this stack and this heap, the body runs to its end and Post holds there. -/
def Cx (l : Launch) (nw : Bool) (Z : State) (EL : List (String × Nat)) (a0 : Array Value) (n0 : Nat) (y : MethodName) (B : ByteArray) (ml : Nat) (ret : Option FieldType) (R : Room) (h0 : Heap) (fs : List Addr) (h : Heap) (ce sl : Nat)
    (p : Program) (e : Env) (s : State) (m : MethodId) (args : Array Value) (below : List Frame) (meth : Method) (c : Code) (T : State) (locs : List Loc) (vm : Vm) (k : Nat) : Prop :=
  (p.tables.exec = Jvm.exec ∧ c.code = B ∧ c.maxLocals = ml ∧ meth.sig.returnType = ret ∧ meth.locks = false ∧ meth.name = y.name ∧ vm.findClass y.cls = some m.cls ∧ s.heap = h0) ∧
  (Z.Warmed39 vm ∧ (∀ d ∈ tables_1, d.before a0 Z = true) ∧ EW Z a0 EL ∧ (nw = true → vm = s.vm ∧ EL = [])) ∧
  Stand p l e R (s.setVm vm) m args below meth c T locs ce sl ∧ T.heap = h ∧ (Fr n0 locs ∧ Old Z n0 h) ∧ (s.Since vm k ∧ k ≤ h.size) ∧ CHr Z EL s.vm h0 vm h ∧ ∀ x ∈ fs, n0 ≤ x ∧ x < h.size ∧ Safe Z EL vm h x
def Fn (nw : Bool) (Z : State) (EL : List (String × Nat)) (n0 : Nat) (R : Room) (h0 : Heap) (Post : Option Value → Heap → Prop) (p : Program) (e : Env) (s : State) (below : List Frame) (t : State) : Prop :=
  ∃ s₂ o, Steps p.tables e below t s₂ ∧ s₂.status = .running ∧ Ended s₂ below o ∧ ∃ v L, o = .returned v ∧ Post v s₂.heap ∧ (Fr n0 L ∧ Old Z n0 s₂.heap) ∧ CHr Z EL s.vm h0 s₂.vm s₂.heap ∧ ReturnedEndW s o s₂ L R.cells R.slots ∧ (nw = true → s.WarmedH s₂.vm)
def Wq (l : Launch) (nw : Bool) (Z : State) (EL : List (String × Nat)) (a0 : Array Value) (n0 : Nat) (y : MethodName) (B : ByteArray) (ml : Nat) (ret : Option FieldType) (R : Room) (h0 : Heap) (Post : Option Value → Heap → Prop) (fs : List Addr) (h : Heap) (ce sl pc : Nat) (L : Array Slot) (S : List Value) : Prop :=
  ∀ (p : Program) (e : Env) (s : State) (m : MethodId) (args : Array Value) (below : List Frame) (meth : Method) (c : Code) (T : State) (locs : List Loc) (vm : Vm) (k : Nat),
    Cx l nw Z EL a0 n0 y B ml ret R h0 fs h ce sl p e s m args below meth c T locs vm k → Fn nw Z EL n0 R h0 Post p e s below (T.setTop (mkF m pc L S))
section Rules
variable {l : Launch} {nw : Bool} {Z : State} {EL : List (String × Nat)} {a0 : Array Value} {n0 : Nat} {y : MethodName} {B : ByteArray} {ml : Nat} {ret : Option FieldType} {R : Room} {h0 : Heap} {Post : Option Value → Heap → Prop} {fs : List Addr} {h : Heap} {ce sl pc pc' : Nat} {L : Array Slot} {S : List Value}
theorem Fn.st {p : Program} {e : Env} {s : State} {below : List Frame} {t t' : State} (st : ∀ u, Steps p.tables e below t' u → Steps p.tables e below t u) (K : Fn nw Z EL n0 R h0 Post p e s below t') : Fn nw Z EL n0 R h0 Post p e s below t := by
  obtain ⟨s₂, o, h1, r⟩ := K
  exact ⟨s₂, o, st _ h1, r⟩
theorem pu {L' : Array Slot} {S' : List Value} (st : ∀ {p : Program} {e : Env} {m : MethodId} {below : List Frame} {c : Code} {T t : State}, At T m c below → p.tables.exec = Jvm.exec → c.code = B → Steps p.tables e below (T.setTop (mkF m pc' L' S')) t → Steps p.tables e below (T.setTop (mkF m pc L S)) t)
    (K : Wq l nw Z EL a0 n0 y B ml ret R h0 Post fs h ce sl pc' L' S') : Wq l nw Z EL a0 n0 y B ml ret R h0 Post fs h ce sl pc L S := fun p e s m args below meth c T locs vm k C =>
  (K p e s m args below meth c T locs vm k C).st fun u q => st C.2.2.1.here C.1.1 C.1.2.1 q
/-- cells and slots may be counted higher -/
theorem more {ce' sl' : Nat} (hc : ce ≤ ce') (hs : sl ≤ sl') (K : Wq l nw Z EL a0 n0 y B ml ret R h0 Post fs h ce' sl' pc L S) : Wq l nw Z EL a0 n0 y B ml ret R h0 Post fs h ce sl pc L S := fun p e s m args below meth c T locs vm k C =>
  K p e s m args below meth c T locs vm k ⟨C.1, C.2.1, C.2.2.1.more hc hs, C.2.2.2⟩
theorem fewer {fs' : List Addr} (hf : ∀ x ∈ fs', x ∈ fs) (K : Wq l nw Z EL a0 n0 y B ml ret R h0 Post fs' h ce sl pc L S) : Wq l nw Z EL a0 n0 y B ml ret R h0 Post fs h ce sl pc L S := fun p e s m args below meth c T locs vm k C =>
  K p e s m args below meth c T locs vm k ⟨C.1, C.2.1, C.2.2.1, C.2.2.2.1, C.2.2.2.2.1, C.2.2.2.2.2.1, C.2.2.2.2.2.2.1, fun x hx => C.2.2.2.2.2.2.2 x (hf x hx)⟩
theorem at' {L' : Array Slot} {S' : List Value} {ce' sl' : Nat} (e4 : ce = ce') (e5 : sl = sl') (e1 : pc = pc') (e2 : L = L') (e3 : S = S') (K : Wq l nw Z EL a0 n0 y B ml ret R h0 Post fs h ce' sl' pc' L' S') : Wq l nw Z EL a0 n0 y B ml ret R h0 Post fs h ce sl pc L S := by subst e1 e2 e3 e4 e5; exact K
/-- the words of the sheet, at hand in the walk -/
theorem words (K : (∀ d ∈ tables_1, d.before a0 Z = true) → Wq l nw Z EL a0 n0 y B ml ret R h0 Post fs h ce sl pc L S) : Wq l nw Z EL a0 n0 y B ml ret R h0 Post fs h ce sl pc L S := fun p e s m args below meth c T locs vm k C => K C.2.1.2.1 p e s m args below meth c T locs vm k C
theorem ews (K : (∀ d ∈ tables_1, d.before a0 Z = true) → EW Z a0 EL → Wq l nw Z EL a0 n0 y B ml ret R h0 Post fs h ce sl pc L S) : Wq l nw Z EL a0 n0 y B ml ret R h0 Post fs h ce sl pc L S := fun p e s m args below meth c T locs vm k C => K C.2.1.2.1 C.2.1.2.2.1 p e s m args below meth c T locs vm k C
theorem fsz (K : (∀ x ∈ fs, n0 ≤ x ∧ x < h.size) → Wq l nw Z EL a0 n0 y B ml ret R h0 Post fs h ce sl pc L S) : Wq l nw Z EL a0 n0 y B ml ret R h0 Post fs h ce sl pc L S := fun p e s m args below meth c T locs vm k C => K (fun x q => ⟨(C.2.2.2.2.2.2.2 x q).1, (C.2.2.2.2.2.2.2 x q).2.1⟩) p e s m args below meth c T locs vm k C
theorem old (K : Old Z n0 h → h0.size ≤ h.size → Wq l nw Z EL a0 n0 y B ml ret R h0 Post fs h ce sl pc L S) : Wq l nw Z EL a0 n0 y B ml ret R h0 Post fs h ce sl pc L S := fun p e s m args below meth c T locs vm k C => K C.2.2.2.2.1.2 C.2.2.2.2.2.2.1.2.1 p e s m args below meth c T locs vm k C
theorem iload {j : Nat} {v : Int32} (hd : decode B pc = .ok (.iload j, 2)) (hl : L[j]? = some (.val (.int v))) (hp : pc + 2 = pc') (K : Wq l nw Z EL a0 n0 y B ml ret R h0 Post fs h ce sl pc' L (.int v :: S)) : Wq l nw Z EL a0 n0 y B ml ret R h0 Post fs h ce sl pc L S :=
  pu (fun h hx hb q => by subst hp; exact XS.iload h hx rfl (Jvm.hb hb hd) hl q) K
theorem iloadN {j : Fin 4} {v : Int32} (hd : decode B pc = .ok (.iload_n j, 1)) (hl : L[j.val]? = some (.val (.int v))) (hp : pc + 1 = pc') (K : Wq l nw Z EL a0 n0 y B ml ret R h0 Post fs h ce sl pc' L (.int v :: S)) : Wq l nw Z EL a0 n0 y B ml ret R h0 Post fs h ce sl pc L S :=
  pu (fun h hx hb q => by subst hp; exact XS.iloadN h hx rfl (Jvm.hb hb hd) hl q) K
theorem lload {j : Nat} {v : Int64} (hd : decode B pc = .ok (.lload j, 2)) (hl : L[j]? = some (.val (.long v))) (hp : pc + 2 = pc') (K : Wq l nw Z EL a0 n0 y B ml ret R h0 Post fs h ce sl pc' L (.long v :: S)) : Wq l nw Z EL a0 n0 y B ml ret R h0 Post fs h ce sl pc L S :=
  pu (fun h hx hb q => by subst hp; exact XS.lload h hx rfl (Jvm.hb hb hd) hl q) K
theorem lloadN {j : Fin 4} {v : Int64} (hd : decode B pc = .ok (.lload_n j, 1)) (hl : L[j.val]? = some (.val (.long v))) (hp : pc + 1 = pc') (K : Wq l nw Z EL a0 n0 y B ml ret R h0 Post fs h ce sl pc' L (.long v :: S)) : Wq l nw Z EL a0 n0 y B ml ret R h0 Post fs h ce sl pc L S :=
  pu (fun h hx hb q => by subst hp; exact XS.lloadN h hx rfl (Jvm.hb hb hd) hl q) K
theorem dload {j : Nat} {v : UInt64} (hd : decode B pc = .ok (.dload j, 2)) (hl : L[j]? = some (.val (.double v))) (hp : pc + 2 = pc') (K : Wq l nw Z EL a0 n0 y B ml ret R h0 Post fs h ce sl pc' L (.double v :: S)) : Wq l nw Z EL a0 n0 y B ml ret R h0 Post fs h ce sl pc L S :=
  pu (fun h hx hb q => by subst hp; exact Jvm.Free.XS.dload h hx rfl (Jvm.hb hb hd) hl q) K
theorem dloadN {j : Fin 4} {v : UInt64} (hd : decode B pc = .ok (.dload_n j, 1)) (hl : L[j.val]? = some (.val (.double v))) (hp : pc + 1 = pc') (K : Wq l nw Z EL a0 n0 y B ml ret R h0 Post fs h ce sl pc' L (.double v :: S)) : Wq l nw Z EL a0 n0 y B ml ret R h0 Post fs h ce sl pc L S :=
  pu (fun h hx hb q => by subst hp; exact XS.dloadN h hx rfl (Jvm.hb hb hd) hl q) K
theorem aload {j : Nat} {v : Value} (hd : decode B pc = .ok (.aload j, 2)) (hl : L[j]? = some (.val v)) (hv : v.isRef = true) (hp : pc + 2 = pc') (K : Wq l nw Z EL a0 n0 y B ml ret R h0 Post fs h ce sl pc' L (v :: S)) : Wq l nw Z EL a0 n0 y B ml ret R h0 Post fs h ce sl pc L S :=
  pu (fun h hx hb q => by subst hp; exact XS.aload h hx rfl (Jvm.hb hb hd) hl hv q) K
theorem aloadN {j : Fin 4} {v : Value} (hd : decode B pc = .ok (.aload_n j, 1)) (hl : L[j.val]? = some (.val v)) (hv : v.isRef = true) (hp : pc + 1 = pc') (K : Wq l nw Z EL a0 n0 y B ml ret R h0 Post fs h ce sl pc' L (v :: S)) : Wq l nw Z EL a0 n0 y B ml ret R h0 Post fs h ce sl pc L S :=
  pu (fun h hx hb q => by subst hp; exact XS.aloadN h hx rfl (Jvm.hb hb hd) hl hv q) K
theorem istore {j : Nat} {v : Int32} {L' : Array Slot} (hd : decode B pc = .ok (.istore j, 2)) (hl : storeLocals L j (.int v) = some L') (hp : pc + 2 = pc') (K : Wq l nw Z EL a0 n0 y B ml ret R h0 Post fs h ce sl pc' L' S) : Wq l nw Z EL a0 n0 y B ml ret R h0 Post fs h ce sl pc L (.int v :: S) :=
  pu (fun h hx hb q => by subst hp; exact XS.istore h hx rfl (Jvm.hb hb hd) rfl hl q) K
theorem istoreN {j : Fin 4} {v : Int32} {L' : Array Slot} (hd : decode B pc = .ok (.istore_n j, 1)) (hl : storeLocals L j.val (.int v) = some L') (hp : pc + 1 = pc') (K : Wq l nw Z EL a0 n0 y B ml ret R h0 Post fs h ce sl pc' L' S) : Wq l nw Z EL a0 n0 y B ml ret R h0 Post fs h ce sl pc L (.int v :: S) :=
  pu (fun h hx hb q => by subst hp; exact XS.istoreN h hx rfl (Jvm.hb hb hd) rfl hl q) K
theorem lstore {j : Nat} {v : Int64} {L' : Array Slot} (hd : decode B pc = .ok (.lstore j, 2)) (hl : storeLocals L j (.long v) = some L') (hp : pc + 2 = pc') (K : Wq l nw Z EL a0 n0 y B ml ret R h0 Post fs h ce sl pc' L' S) : Wq l nw Z EL a0 n0 y B ml ret R h0 Post fs h ce sl pc L (.long v :: S) :=
  pu (fun h hx hb q => by subst hp; exact XS.lstore h hx rfl (Jvm.hb hb hd) rfl hl q) K
theorem lstoreN {j : Fin 4} {v : Int64} {L' : Array Slot} (hd : decode B pc = .ok (.lstore_n j, 1)) (hl : storeLocals L j.val (.long v) = some L') (hp : pc + 1 = pc') (K : Wq l nw Z EL a0 n0 y B ml ret R h0 Post fs h ce sl pc' L' S) : Wq l nw Z EL a0 n0 y B ml ret R h0 Post fs h ce sl pc L (.long v :: S) :=
  pu (fun h hx hb q => by subst hp; exact XS.lstoreN h hx rfl (Jvm.hb hb hd) rfl hl q) K
theorem dstore {j : Nat} {v : UInt64} {L' : Array Slot} (hd : decode B pc = .ok (.dstore j, 2)) (hl : storeLocals L j (.double v) = some L') (hp : pc + 2 = pc') (K : Wq l nw Z EL a0 n0 y B ml ret R h0 Post fs h ce sl pc' L' S) : Wq l nw Z EL a0 n0 y B ml ret R h0 Post fs h ce sl pc L (.double v :: S) :=
  pu (fun h hx hb q => by subst hp; exact XS.dstore h hx rfl (Jvm.hb hb hd) rfl hl q) K
theorem dstoreN {j : Fin 4} {v : UInt64} {L' : Array Slot} (hd : decode B pc = .ok (.dstore_n j, 1)) (hl : storeLocals L j.val (.double v) = some L') (hp : pc + 1 = pc') (K : Wq l nw Z EL a0 n0 y B ml ret R h0 Post fs h ce sl pc' L' S) : Wq l nw Z EL a0 n0 y B ml ret R h0 Post fs h ce sl pc L (.double v :: S) :=
  pu (fun h hx hb q => by subst hp; exact XS.dstoreN h hx rfl (Jvm.hb hb hd) rfl hl q) K
theorem astore {j : Nat} {v : Value} {L' : Array Slot} (hd : decode B pc = .ok (.astore j, 2)) (hv : v.isRef = true) (hl : storeLocals L j v = some L') (hp : pc + 2 = pc') (K : Wq l nw Z EL a0 n0 y B ml ret R h0 Post fs h ce sl pc' L' S) : Wq l nw Z EL a0 n0 y B ml ret R h0 Post fs h ce sl pc L (v :: S) :=
  pu (fun h hx hb q => by subst hp; exact XS.astore h hx rfl (Jvm.hb hb hd) rfl hv hl q) K
theorem astoreN {j : Fin 4} {v : Value} {L' : Array Slot} (hd : decode B pc = .ok (.astore_n j, 1)) (hv : v.isRef = true) (hl : storeLocals L j.val v = some L') (hp : pc + 1 = pc') (K : Wq l nw Z EL a0 n0 y B ml ret R h0 Post fs h ce sl pc' L' S) : Wq l nw Z EL a0 n0 y B ml ret R h0 Post fs h ce sl pc L (v :: S) :=
  pu (fun h hx hb q => by subst hp; exact XS.astoreN h hx rfl (Jvm.hb hb hd) rfl hv hl q) K
theorem iconst {i : Int} {v : Int32} (hd : decode B pc = .ok (.iconst i, 1)) (hv : Int32.ofInt i = v) (hp : pc + 1 = pc') (K : Wq l nw Z EL a0 n0 y B ml ret R h0 Post fs h ce sl pc' L (.int v :: S)) : Wq l nw Z EL a0 n0 y B ml ret R h0 Post fs h ce sl pc L S :=
  pu (fun h hx hb q => by subst hp hv; exact XS.iconst h hx rfl (Jvm.hb hb hd) q) K
theorem bipush {i : Int} {v : Int32} (hd : decode B pc = .ok (.bipush i, 2)) (hv : (Int8.ofInt i).toInt32 = v) (hp : pc + 2 = pc') (K : Wq l nw Z EL a0 n0 y B ml ret R h0 Post fs h ce sl pc' L (.int v :: S)) : Wq l nw Z EL a0 n0 y B ml ret R h0 Post fs h ce sl pc L S :=
  pu (fun h hx hb q => by subst hp hv; exact XS.bipush h hx rfl (Jvm.hb hb hd) q) K
theorem sipush {i : Int} {v : Int32} (hd : decode B pc = .ok (.sipush i, 3)) (hv : (Int16.ofInt i).toInt32 = v) (hp : pc + 3 = pc') (K : Wq l nw Z EL a0 n0 y B ml ret R h0 Post fs h ce sl pc' L (.int v :: S)) : Wq l nw Z EL a0 n0 y B ml ret R h0 Post fs h ce sl pc L S :=
  pu (fun h hx hb q => by subst hp hv; exact XS.sipush h hx rfl (Jvm.hb hb hd) q) K
theorem lconst {j : Fin 2} {v : Int64} (hd : decode B pc = .ok (.lconst j, 1)) (hv : Int64.ofNat j = v) (hp : pc + 1 = pc') (K : Wq l nw Z EL a0 n0 y B ml ret R h0 Post fs h ce sl pc' L (.long v :: S)) : Wq l nw Z EL a0 n0 y B ml ret R h0 Post fs h ce sl pc L S :=
  pu (fun h hx hb q => by subst hp hv; exact XS.lconst h hx rfl (Jvm.hb hb hd) q) K
theorem aconst_null  (hd : decode B pc = .ok (.aconst_null, 1)) (hp : pc + 1 = pc') (K : Wq l nw Z EL a0 n0 y B ml ret R h0 Post fs h ce sl pc' L (.null :: S)) : Wq l nw Z EL a0 n0 y B ml ret R h0 Post fs h ce sl pc L S :=
  pu (fun h hx hb q => by subst hp; exact XS.aconstNull h hx rfl (Jvm.hb hb hd) q) K
theorem iadd {x z : Int32} (hd : decode B pc = .ok (.iadd, 1)) (hp : pc + 1 = pc') (K : Wq l nw Z EL a0 n0 y B ml ret R h0 Post fs h ce sl pc' L (.int (x + z) :: S)) : Wq l nw Z EL a0 n0 y B ml ret R h0 Post fs h ce sl pc L (.int z :: .int x :: S) :=
  pu (fun h hx hb q => by subst hp; exact XS.iadd h hx rfl (Jvm.hb hb hd) rfl q) K
theorem isub {x z : Int32} (hd : decode B pc = .ok (.isub, 1)) (hp : pc + 1 = pc') (K : Wq l nw Z EL a0 n0 y B ml ret R h0 Post fs h ce sl pc' L (.int (x - z) :: S)) : Wq l nw Z EL a0 n0 y B ml ret R h0 Post fs h ce sl pc L (.int z :: .int x :: S) :=
  pu (fun h hx hb q => by subst hp; exact XS.isub h hx rfl (Jvm.hb hb hd) rfl q) K
theorem imul {x z : Int32} (hd : decode B pc = .ok (.imul, 1)) (hp : pc + 1 = pc') (K : Wq l nw Z EL a0 n0 y B ml ret R h0 Post fs h ce sl pc' L (.int (x * z) :: S)) : Wq l nw Z EL a0 n0 y B ml ret R h0 Post fs h ce sl pc L (.int z :: .int x :: S) :=
  pu (fun h hx hb q => by subst hp; exact XS.imul h hx rfl (Jvm.hb hb hd) rfl q) K
theorem iand {x z : Int32} (hd : decode B pc = .ok (.iand, 1)) (hp : pc + 1 = pc') (K : Wq l nw Z EL a0 n0 y B ml ret R h0 Post fs h ce sl pc' L (.int (x &&& z) :: S)) : Wq l nw Z EL a0 n0 y B ml ret R h0 Post fs h ce sl pc L (.int z :: .int x :: S) :=
  pu (fun h hx hb q => by subst hp; exact XS.iand h hx rfl (Jvm.hb hb hd) rfl q) K
theorem ior {x z : Int32} (hd : decode B pc = .ok (.ior, 1)) (hp : pc + 1 = pc') (K : Wq l nw Z EL a0 n0 y B ml ret R h0 Post fs h ce sl pc' L (.int (x ||| z) :: S)) : Wq l nw Z EL a0 n0 y B ml ret R h0 Post fs h ce sl pc L (.int z :: .int x :: S) :=
  pu (fun h hx hb q => by subst hp; exact XS.ior h hx rfl (Jvm.hb hb hd) rfl q) K
theorem ixor {x z : Int32} (hd : decode B pc = .ok (.ixor, 1)) (hp : pc + 1 = pc') (K : Wq l nw Z EL a0 n0 y B ml ret R h0 Post fs h ce sl pc' L (.int (x ^^^ z) :: S)) : Wq l nw Z EL a0 n0 y B ml ret R h0 Post fs h ce sl pc L (.int z :: .int x :: S) :=
  pu (fun h hx hb q => by subst hp; exact XS.ixor h hx rfl (Jvm.hb hb hd) rfl q) K
theorem ishl {x z : Int32} (hd : decode B pc = .ok (.ishl, 1)) (hp : pc + 1 = pc') (K : Wq l nw Z EL a0 n0 y B ml ret R h0 Post fs h ce sl pc' L (.int (x <<< (z &&& 31)) :: S)) : Wq l nw Z EL a0 n0 y B ml ret R h0 Post fs h ce sl pc L (.int z :: .int x :: S) :=
  pu (fun h hx hb q => by subst hp; exact XS.ishl h hx rfl (Jvm.hb hb hd) rfl q) K
theorem ishr {x z : Int32} (hd : decode B pc = .ok (.ishr, 1)) (hp : pc + 1 = pc') (K : Wq l nw Z EL a0 n0 y B ml ret R h0 Post fs h ce sl pc' L (.int (x >>> (z &&& 31)) :: S)) : Wq l nw Z EL a0 n0 y B ml ret R h0 Post fs h ce sl pc L (.int z :: .int x :: S) :=
  pu (fun h hx hb q => by subst hp; exact XS.ishr h hx rfl (Jvm.hb hb hd) rfl q) K
theorem iushr {x z : Int32} (hd : decode B pc = .ok (.iushr, 1)) (hp : pc + 1 = pc') (K : Wq l nw Z EL a0 n0 y B ml ret R h0 Post fs h ce sl pc' L (.int ((x.toUInt32 >>> (z &&& 31).toUInt32).toInt32) :: S)) : Wq l nw Z EL a0 n0 y B ml ret R h0 Post fs h ce sl pc L (.int z :: .int x :: S) :=
  pu (fun h hx hb q => by subst hp; exact XS.iushr h hx rfl (Jvm.hb hb hd) rfl q) K
theorem ladd {x z : Int64} (hd : decode B pc = .ok (.ladd, 1)) (hp : pc + 1 = pc') (K : Wq l nw Z EL a0 n0 y B ml ret R h0 Post fs h ce sl pc' L (.long (x + z) :: S)) : Wq l nw Z EL a0 n0 y B ml ret R h0 Post fs h ce sl pc L (.long z :: .long x :: S) :=
  pu (fun h hx hb q => by subst hp; exact XS.ladd h hx rfl (Jvm.hb hb hd) rfl q) K
theorem lsub {x z : Int64} (hd : decode B pc = .ok (.lsub, 1)) (hp : pc + 1 = pc') (K : Wq l nw Z EL a0 n0 y B ml ret R h0 Post fs h ce sl pc' L (.long (x - z) :: S)) : Wq l nw Z EL a0 n0 y B ml ret R h0 Post fs h ce sl pc L (.long z :: .long x :: S) :=
  pu (fun h hx hb q => by subst hp; exact XS.lsub h hx rfl (Jvm.hb hb hd) rfl q) K
theorem lmul {x z : Int64} (hd : decode B pc = .ok (.lmul, 1)) (hp : pc + 1 = pc') (K : Wq l nw Z EL a0 n0 y B ml ret R h0 Post fs h ce sl pc' L (.long (x * z) :: S)) : Wq l nw Z EL a0 n0 y B ml ret R h0 Post fs h ce sl pc L (.long z :: .long x :: S) :=
  pu (fun h hx hb q => by subst hp; exact XS.lmul h hx rfl (Jvm.hb hb hd) rfl q) K
theorem land {x z : Int64} (hd : decode B pc = .ok (.land, 1)) (hp : pc + 1 = pc') (K : Wq l nw Z EL a0 n0 y B ml ret R h0 Post fs h ce sl pc' L (.long (x &&& z) :: S)) : Wq l nw Z EL a0 n0 y B ml ret R h0 Post fs h ce sl pc L (.long z :: .long x :: S) :=
  pu (fun h hx hb q => by subst hp; exact XS.land h hx rfl (Jvm.hb hb hd) rfl q) K
theorem lor {x z : Int64} (hd : decode B pc = .ok (.lor, 1)) (hp : pc + 1 = pc') (K : Wq l nw Z EL a0 n0 y B ml ret R h0 Post fs h ce sl pc' L (.long (x ||| z) :: S)) : Wq l nw Z EL a0 n0 y B ml ret R h0 Post fs h ce sl pc L (.long z :: .long x :: S) :=
  pu (fun h hx hb q => by subst hp; exact XS.lor h hx rfl (Jvm.hb hb hd) rfl q) K
theorem lxor {x z : Int64} (hd : decode B pc = .ok (.lxor, 1)) (hp : pc + 1 = pc') (K : Wq l nw Z EL a0 n0 y B ml ret R h0 Post fs h ce sl pc' L (.long (x ^^^ z) :: S)) : Wq l nw Z EL a0 n0 y B ml ret R h0 Post fs h ce sl pc L (.long z :: .long x :: S) :=
  pu (fun h hx hb q => by subst hp; exact XS.lxor h hx rfl (Jvm.hb hb hd) rfl q) K
theorem lshl {x : Int64} {z : Int32} (hd : decode B pc = .ok (.lshl, 1)) (hp : pc + 1 = pc') (K : Wq l nw Z EL a0 n0 y B ml ret R h0 Post fs h ce sl pc' L (.long (x <<< (z &&& 0x3f).toInt64) :: S)) : Wq l nw Z EL a0 n0 y B ml ret R h0 Post fs h ce sl pc L (.int z :: .long x :: S) :=
  pu (fun h hx hb q => by subst hp; exact XS.lshl h hx rfl (Jvm.hb hb hd) rfl q) K
theorem lshr {x : Int64} {z : Int32} (hd : decode B pc = .ok (.lshr, 1)) (hp : pc + 1 = pc') (K : Wq l nw Z EL a0 n0 y B ml ret R h0 Post fs h ce sl pc' L (.long (x >>> (z &&& 0x3f).toInt64) :: S)) : Wq l nw Z EL a0 n0 y B ml ret R h0 Post fs h ce sl pc L (.int z :: .long x :: S) :=
  pu (fun h hx hb q => by subst hp; exact XS.lshr h hx rfl (Jvm.hb hb hd) rfl q) K
theorem lushr {x : Int64} {z : Int32} (hd : decode B pc = .ok (.lushr, 1)) (hp : pc + 1 = pc') (K : Wq l nw Z EL a0 n0 y B ml ret R h0 Post fs h ce sl pc' L (.long ((x.toUInt64 >>> (z &&& 0x3f).toInt64.toUInt64).toInt64) :: S)) : Wq l nw Z EL a0 n0 y B ml ret R h0 Post fs h ce sl pc L (.int z :: .long x :: S) :=
  pu (fun h hx hb q => by subst hp; exact XS.lushr h hx rfl (Jvm.hb hb hd) rfl q) K
theorem idiv {x z : Int32} (hd : decode B pc = .ok (.idiv, 1)) (hz : ¬ z = 0) (hp : pc + 1 = pc') (K : Wq l nw Z EL a0 n0 y B ml ret R h0 Post fs h ce sl pc' L (.int (x / z) :: S)) : Wq l nw Z EL a0 n0 y B ml ret R h0 Post fs h ce sl pc L (.int z :: .int x :: S) :=
  pu (fun h hx hb q => by subst hp; exact XS.idiv h hx rfl (Jvm.hb hb hd) rfl hz q) K
theorem ldiv {x z : Int64} (hd : decode B pc = .ok (.ldiv, 1)) (hz : ¬ z = 0) (hp : pc + 1 = pc') (K : Wq l nw Z EL a0 n0 y B ml ret R h0 Post fs h ce sl pc' L (.long (x / z) :: S)) : Wq l nw Z EL a0 n0 y B ml ret R h0 Post fs h ce sl pc L (.long z :: .long x :: S) :=
  pu (fun h hx hb q => by subst hp; exact XS.ldiv h hx rfl (Jvm.hb hb hd) rfl hz q) K
theorem irem {x z : Int32} (hd : decode B pc = .ok (.irem, 1)) (hz : ¬ z = 0) (hp : pc + 1 = pc') (K : Wq l nw Z EL a0 n0 y B ml ret R h0 Post fs h ce sl pc' L (.int (x % z) :: S)) : Wq l nw Z EL a0 n0 y B ml ret R h0 Post fs h ce sl pc L (.int z :: .int x :: S) := fun p e s m args below meth c T locs vm k C =>
  (K p e s m args below meth c T locs vm k C).st fun u q => by subst hp; exact iremM C.2.2.1 C.1.1 rfl (Jvm.hb C.1.2.1 hd) rfl hz q
theorem i2l {x : Int32} (hd : decode B pc = .ok (.i2l, 1)) (hp : pc + 1 = pc') (K : Wq l nw Z EL a0 n0 y B ml ret R h0 Post fs h ce sl pc' L (.long (x.toInt64) :: S)) : Wq l nw Z EL a0 n0 y B ml ret R h0 Post fs h ce sl pc L (.int x :: S) :=
  pu (fun h hx hb q => by subst hp; exact XS.i2l h hx rfl (Jvm.hb hb hd) rfl q) K
theorem l2i {x : Int64} (hd : decode B pc = .ok (.l2i, 1)) (hp : pc + 1 = pc') (K : Wq l nw Z EL a0 n0 y B ml ret R h0 Post fs h ce sl pc' L (.int (x.toInt32) :: S)) : Wq l nw Z EL a0 n0 y B ml ret R h0 Post fs h ce sl pc L (.long x :: S) :=
  pu (fun h hx hb q => by subst hp; exact XS.l2i h hx rfl (Jvm.hb hb hd) rfl q) K
theorem i2b {x : Int32} (hd : decode B pc = .ok (.i2b, 1)) (hp : pc + 1 = pc') (K : Wq l nw Z EL a0 n0 y B ml ret R h0 Post fs h ce sl pc' L (.int (x.toInt8.toInt32) :: S)) : Wq l nw Z EL a0 n0 y B ml ret R h0 Post fs h ce sl pc L (.int x :: S) :=
  pu (fun h hx hb q => by subst hp; exact XS.i2b h hx rfl (Jvm.hb hb hd) rfl q) K
theorem i2c {x : Int32} (hd : decode B pc = .ok (.i2c, 1)) (hp : pc + 1 = pc') (K : Wq l nw Z EL a0 n0 y B ml ret R h0 Post fs h ce sl pc' L (.int (x.toUInt32.toUInt16.toUInt32.toInt32) :: S)) : Wq l nw Z EL a0 n0 y B ml ret R h0 Post fs h ce sl pc L (.int x :: S) :=
  pu (fun h hx hb q => by subst hp; exact XS.i2c h hx rfl (Jvm.hb hb hd) rfl q) K
theorem i2s {x : Int32} (hd : decode B pc = .ok (.i2s, 1)) (hp : pc + 1 = pc') (K : Wq l nw Z EL a0 n0 y B ml ret R h0 Post fs h ce sl pc' L (.int (x.toInt16.toInt32) :: S)) : Wq l nw Z EL a0 n0 y B ml ret R h0 Post fs h ce sl pc L (.int x :: S) :=
  pu (fun h hx hb q => by subst hp; exact XS.i2s h hx rfl (Jvm.hb hb hd) rfl q) K
theorem ineg {x : Int32} (hd : decode B pc = .ok (.ineg, 1)) (hp : pc + 1 = pc') (K : Wq l nw Z EL a0 n0 y B ml ret R h0 Post fs h ce sl pc' L (.int (-x) :: S)) : Wq l nw Z EL a0 n0 y B ml ret R h0 Post fs h ce sl pc L (.int x :: S) :=
  pu (fun h hx hb q => by subst hp; exact XS.ineg h hx rfl (Jvm.hb hb hd) rfl q) K
theorem lneg {x : Int64} (hd : decode B pc = .ok (.lneg, 1)) (hp : pc + 1 = pc') (K : Wq l nw Z EL a0 n0 y B ml ret R h0 Post fs h ce sl pc' L (.long (-x) :: S)) : Wq l nw Z EL a0 n0 y B ml ret R h0 Post fs h ce sl pc L (.long x :: S) :=
  pu (fun h hx hb q => by subst hp; exact XS.lneg h hx rfl (Jvm.hb hb hd) rfl q) K
theorem lcmp {x z : Int64} (hd : decode B pc = .ok (.lcmp, 1)) (hp : pc + 1 = pc') (K : Wq l nw Z EL a0 n0 y B ml ret R h0 Post fs h ce sl pc' L (.int (lcmpW x z) :: S)) : Wq l nw Z EL a0 n0 y B ml ret R h0 Post fs h ce sl pc L (.long z :: .long x :: S) :=
  pu (fun h hx hb q => by subst hp; exact XS.lcmp h hx rfl (Jvm.hb hb hd) rfl q) K
theorem iinc {j : Nat} {i : Int} {x v : Int32} {L' : Array Slot} (hd : decode B pc = .ok (.iinc j i, 3)) (hl : L[j]? = some (.val (.int x))) (hv : x + Int32.ofInt i = v) (hl' : storeLocals L j (.int v) = some L') (hp : pc + 3 = pc') (K : Wq l nw Z EL a0 n0 y B ml ret R h0 Post fs h ce sl pc' L' S) : Wq l nw Z EL a0 n0 y B ml ret R h0 Post fs h ce sl pc L S :=
  pu (fun h hx hb q => by subst hp hv; exact XS.iinc h hx rfl (Jvm.hb hb hd) hl hl' q) K
theorem dup {v : Value} (hd : decode B pc = .ok (.dup, 1)) (hc : v.category = 1) (hp : pc + 1 = pc') (K : Wq l nw Z EL a0 n0 y B ml ret R h0 Post fs h ce sl pc' L (v :: v :: S)) : Wq l nw Z EL a0 n0 y B ml ret R h0 Post fs h ce sl pc L (v :: S) :=
  pu (fun h hx hb q => by subst hp; exact XS.dup h hx rfl (Jvm.hb hb hd) rfl hc q) K
theorem pop {v : Value} (hd : decode B pc = .ok (.pop, 1)) (hc : v.category = 1) (hp : pc + 1 = pc') (K : Wq l nw Z EL a0 n0 y B ml ret R h0 Post fs h ce sl pc' L S) : Wq l nw Z EL a0 n0 y B ml ret R h0 Post fs h ce sl pc L (v :: S) :=
  pu (fun h hx hb q => by subst hp; exact XS.pop h hx rfl (Jvm.hb hb hd) rfl hc q) K
theorem dup_x1 {v w : Value} (hd : decode B pc = .ok (.dup_x1, 1)) (hc : v.category = 1) (hc2 : w.category = 1) (hp : pc + 1 = pc') (K : Wq l nw Z EL a0 n0 y B ml ret R h0 Post fs h ce sl pc' L (v :: w :: v :: S)) : Wq l nw Z EL a0 n0 y B ml ret R h0 Post fs h ce sl pc L (v :: w :: S) :=
  pu (fun h hx hb q => by subst hp; exact XS.dupX1 h hx rfl (Jvm.hb hb hd) rfl hc hc2 q) K
theorem i2d {x : Int32} (hd : decode B pc = .ok (.i2d, 1)) (hp : pc + 1 = pc') (K : Wq l nw Z EL a0 n0 y B ml ret R h0 Post fs h ce sl pc' L (.double (FP.i2d x) :: S)) : Wq l nw Z EL a0 n0 y B ml ret R h0 Post fs h ce sl pc L (.int x :: S) :=
  pu (fun h hx hb q => by subst hp; exact XS.i2dS h hx rfl (Jvm.hb hb hd) rfl rfl q) K
theorem l2d {x : Int64} (hd : decode B pc = .ok (.l2d, 1)) (hp : pc + 1 = pc') (K : Wq l nw Z EL a0 n0 y B ml ret R h0 Post fs h ce sl pc' L (.double (FP.l2d x) :: S)) : Wq l nw Z EL a0 n0 y B ml ret R h0 Post fs h ce sl pc L (.long x :: S) :=
  pu (fun h hx hb q => by subst hp; exact XS.l2dS h hx rfl (Jvm.hb hb hd) rfl rfl q) K
theorem dcmp {o : CmpOp} {x z : UInt64} (hd : decode B pc = .ok (.dcmp o, 1)) (hp : pc + 1 = pc') (K : Wq l nw Z EL a0 n0 y B ml ret R h0 Post fs h ce sl pc' L (.int (cmpValue (FP.dcmp x z) o) :: S)) : Wq l nw Z EL a0 n0 y B ml ret R h0 Post fs h ce sl pc L (.double z :: .double x :: S) :=
  pu (fun h hx hb q => by subst hp; exact XS.dcmpS h hx rfl (Jvm.hb hb hd) rfl rfl q) K
theorem dconst0 {v : UInt64} (hd : decode B pc = .ok (.dconst 0, 1)) (hv : FP.dconst0 = v) (hp : pc + 1 = pc') (K : Wq l nw Z EL a0 n0 y B ml ret R h0 Post fs h ce sl pc' L (.double v :: S)) : Wq l nw Z EL a0 n0 y B ml ret R h0 Post fs h ce sl pc L S :=
  pu (fun h hx hb q => by subst hp; exact XS.dconst0 h hx rfl (Jvm.hb hb hd) hv q) K
theorem dconst1 {v : UInt64} (hd : decode B pc = .ok (.dconst 1, 1)) (hv : FP.dconst1 = v) (hp : pc + 1 = pc') (K : Wq l nw Z EL a0 n0 y B ml ret R h0 Post fs h ce sl pc' L (.double v :: S)) : Wq l nw Z EL a0 n0 y B ml ret R h0 Post fs h ce sl pc L S :=
  pu (fun h hx hb q => by subst hp; exact XS.dconst1 h hx rfl (Jvm.hb hb hd) hv q) K
theorem dadd {x z v : UInt64} (hd : decode B pc = .ok (.dadd, 1)) (hn : Jvm.Free.Fl.NoNaN64 (FP.dadd x z)) (hv : FP.dadd x z = v) (hp : pc + 1 = pc') (K : Wq l nw Z EL a0 n0 y B ml ret R h0 Post fs h ce sl pc' L (.double v :: S)) : Wq l nw Z EL a0 n0 y B ml ret R h0 Post fs h ce sl pc L (.double z :: .double x :: S) :=
  pu (fun h hx hb q => by subst hp; exact XS.daddS h hx rfl (Jvm.hb hb hd) rfl hn hv q) K
theorem dsub {x z v : UInt64} (hd : decode B pc = .ok (.dsub, 1)) (hn : Jvm.Free.Fl.NoNaN64 (FP.dsub x z)) (hv : FP.dsub x z = v) (hp : pc + 1 = pc') (K : Wq l nw Z EL a0 n0 y B ml ret R h0 Post fs h ce sl pc' L (.double v :: S)) : Wq l nw Z EL a0 n0 y B ml ret R h0 Post fs h ce sl pc L (.double z :: .double x :: S) :=
  pu (fun h hx hb q => by subst hp; exact XS.dsubS h hx rfl (Jvm.hb hb hd) rfl hn hv q) K
theorem dmul {x z v : UInt64} (hd : decode B pc = .ok (.dmul, 1)) (hn : Jvm.Free.Fl.NoNaN64 (FP.dmul x z)) (hv : FP.dmul x z = v) (hp : pc + 1 = pc') (K : Wq l nw Z EL a0 n0 y B ml ret R h0 Post fs h ce sl pc' L (.double v :: S)) : Wq l nw Z EL a0 n0 y B ml ret R h0 Post fs h ce sl pc L (.double z :: .double x :: S) :=
  pu (fun h hx hb q => by subst hp; exact XS.dmulS h hx rfl (Jvm.hb hb hd) rfl hn hv q) K
theorem ddiv {x z v : UInt64} (hd : decode B pc = .ok (.ddiv, 1)) (hn : Jvm.Free.Fl.NoNaN64 (FP.ddiv x z)) (hv : FP.ddiv x z = v) (hp : pc + 1 = pc') (K : Wq l nw Z EL a0 n0 y B ml ret R h0 Post fs h ce sl pc' L (.double v :: S)) : Wq l nw Z EL a0 n0 y B ml ret R h0 Post fs h ce sl pc L (.double z :: .double x :: S) :=
  pu (fun h hx hb q => by subst hp; exact XS.ddivS h hx rfl (Jvm.hb hb hd) rfl hn hv q) K
theorem goto {o : Int} (hd : decode B pc = .ok (.goto o, 3)) (ho : 0 ≤ (pc : Int) + o) (hp : ((pc : Int) + o).toNat = pc') (K : Wq l nw Z EL a0 n0 y B ml ret R h0 Post fs h ce sl pc' L S) : Wq l nw Z EL a0 n0 y B ml ret R h0 Post fs h ce sl pc L S :=
  pu (fun h hx hb q => XS.goto h hx rfl (pc0 := pc) rfl (Jvm.hb hb hd) ho hp q) K
def rel (cd : ClassFile.Cond) (x z : Int32) : Prop := match cd with
  | .eq => x = z
  | .ne => ¬ x = z
  | .lt => x < z
  | .ge => ¬ x < z
  | .gt => z < x
  | .le => ¬ z < x
def relN (cd : ClassFile.Cond) (x z : Int32) : Prop := match cd with
  | .eq => ¬ x = z
  | .ne => x = z
  | .lt => ¬ x < z
  | .ge => x < z
  | .gt => ¬ z < x
  | .le => z < x
theorem rel_t {cd : ClassFile.Cond} {x z : Int32} (h : rel cd x z) : if_icmp.holds cd x z = true := by
  cases cd
  · exact (teq h).1
  · exact (feq h).2
  · exact (tlt h).1
  · exact (flt h).2.1
  · exact (tlt h).2.2.1
  · exact (flt h).2.2.2
theorem rel_f {cd : ClassFile.Cond} {x z : Int32} (h : relN cd x z) : if_icmp.holds cd x z = false := by
  cases cd
  · exact (feq h).1
  · exact (teq h).2
  · exact (flt h).1
  · exact (tlt h).2.1
  · exact (flt h).2.2.1
  · exact (tlt h).2.2.2
theorem rel_or (cd : ClassFile.Cond) (x z : Int32) : rel cd x z ∨ relN cd x z := by
  cases cd <;> simp only [rel, relN] <;> first | exact Decidable.em _ | exact (Decidable.em _).symm
theorem icmpT {cd : ClassFile.Cond} {o : Int} {x z : Int32} (hd : decode B pc = .ok (.if_icmp cd o, 3)) (hc : rel cd x z) (ho : 0 ≤ (pc : Int) + o) (hp : ((pc : Int) + o).toNat = pc') (K : Wq l nw Z EL a0 n0 y B ml ret R h0 Post fs h ce sl pc' L S) : Wq l nw Z EL a0 n0 y B ml ret R h0 Post fs h ce sl pc L (.int z :: .int x :: S) :=
  pu (fun h hx hb q => XS.icmpYes h hx rfl (pc0 := pc) rfl (Jvm.hb hb hd) rfl (rel_t hc) ho hp q) K
theorem icmpF {cd : ClassFile.Cond} {o : Int} {x z : Int32} (hd : decode B pc = .ok (.if_icmp cd o, 3)) (hc : relN cd x z) (hp : pc + 3 = pc') (K : Wq l nw Z EL a0 n0 y B ml ret R h0 Post fs h ce sl pc' L S) : Wq l nw Z EL a0 n0 y B ml ret R h0 Post fs h ce sl pc L (.int z :: .int x :: S) :=
  pu (fun h hx hb q => by subst hp; exact XS.icmpNo h hx rfl (Jvm.hb hb hd) rfl (rel_f hc) q) K
theorem icmp {cd : ClassFile.Cond} {o : Int} {x z : Int32} {pcF : Nat} (hd : decode B pc = .ok (.if_icmp cd o, 3)) (ho : 0 ≤ (pc : Int) + o) (hp : ((pc : Int) + o).toNat = pc') (hp2 : pc + 3 = pcF) (K : rel cd x z → Wq l nw Z EL a0 n0 y B ml ret R h0 Post fs h ce sl pc' L S) (K2 : relN cd x z → Wq l nw Z EL a0 n0 y B ml ret R h0 Post fs h ce sl pcF L S) : Wq l nw Z EL a0 n0 y B ml ret R h0 Post fs h ce sl pc L (.int z :: .int x :: S) :=
  (rel_or cd x z).elim (fun q => icmpT hd q ho hp (K q)) (fun q => icmpF hd q hp2 (K2 q))
theorem ifT {cd : ClassFile.Cond} {o : Int} {x : Int32} (hd : decode B pc = .ok (.ifCond cd o, 3)) (hc : rel cd x 0) (ho : 0 ≤ (pc : Int) + o) (hp : ((pc : Int) + o).toNat = pc') (K : Wq l nw Z EL a0 n0 y B ml ret R h0 Post fs h ce sl pc' L S) : Wq l nw Z EL a0 n0 y B ml ret R h0 Post fs h ce sl pc L (.int x :: S) :=
  pu (fun h hx hb q => XS.ifYes h hx rfl (pc0 := pc) rfl (Jvm.hb hb hd) rfl ((if0 _ _).trans (rel_t hc)) ho hp q) K
theorem ifF {cd : ClassFile.Cond} {o : Int} {x : Int32} (hd : decode B pc = .ok (.ifCond cd o, 3)) (hc : relN cd x 0) (hp : pc + 3 = pc') (K : Wq l nw Z EL a0 n0 y B ml ret R h0 Post fs h ce sl pc' L S) : Wq l nw Z EL a0 n0 y B ml ret R h0 Post fs h ce sl pc L (.int x :: S) :=
  pu (fun h hx hb q => by subst hp; exact XS.ifNo h hx rfl (Jvm.hb hb hd) rfl ((if0 _ _).trans (rel_f hc)) q) K
theorem ifc {cd : ClassFile.Cond} {o : Int} {x : Int32} {pcF : Nat} (hd : decode B pc = .ok (.ifCond cd o, 3)) (ho : 0 ≤ (pc : Int) + o) (hp : ((pc : Int) + o).toNat = pc') (hp2 : pc + 3 = pcF) (K : rel cd x 0 → Wq l nw Z EL a0 n0 y B ml ret R h0 Post fs h ce sl pc' L S) (K2 : relN cd x 0 → Wq l nw Z EL a0 n0 y B ml ret R h0 Post fs h ce sl pcF L S) : Wq l nw Z EL a0 n0 y B ml ret R h0 Post fs h ce sl pc L (.int x :: S) :=
  (rel_or cd x 0).elim (fun q => ifT hd q ho hp (K q)) (fun q => ifF hd q hp2 (K2 q))
theorem ifnullT {o : Int} (hd : decode B pc = .ok (.ifnull o, 3)) (ho : 0 ≤ (pc : Int) + o) (hp : ((pc : Int) + o).toNat = pc') (K : Wq l nw Z EL a0 n0 y B ml ret R h0 Post fs h ce sl pc' L S) : Wq l nw Z EL a0 n0 y B ml ret R h0 Post fs h ce sl pc L (.null :: S) :=
  pu (fun h hx hb q => XS.ifnullYes h hx rfl (pc0 := pc) rfl (Jvm.hb hb hd) rfl ho hp q) K
theorem ifnullF {o : Int} {a : Addr} (hd : decode B pc = .ok (.ifnull o, 3)) (hp : pc + 3 = pc') (K : Wq l nw Z EL a0 n0 y B ml ret R h0 Post fs h ce sl pc' L S) : Wq l nw Z EL a0 n0 y B ml ret R h0 Post fs h ce sl pc L (.ref a :: S) :=
  pu (fun h hx hb q => by subst hp; exact XS.ifnullNo h hx rfl (Jvm.hb hb hd) rfl q) K
theorem ifnonnullT {o : Int} {a : Addr} (hd : decode B pc = .ok (.ifnonnull o, 3)) (ho : 0 ≤ (pc : Int) + o) (hp : ((pc : Int) + o).toNat = pc') (K : Wq l nw Z EL a0 n0 y B ml ret R h0 Post fs h ce sl pc' L S) : Wq l nw Z EL a0 n0 y B ml ret R h0 Post fs h ce sl pc L (.ref a :: S) :=
  pu (fun h hx hb q => XS.ifnonnullYes h hx rfl (pc0 := pc) rfl (Jvm.hb hb hd) rfl ho hp q) K
theorem ifnonnullF {o : Int} (hd : decode B pc = .ok (.ifnonnull o, 3)) (hp : pc + 3 = pc') (K : Wq l nw Z EL a0 n0 y B ml ret R h0 Post fs h ce sl pc' L S) : Wq l nw Z EL a0 n0 y B ml ret R h0 Post fs h ce sl pc L (.null :: S) :=
  pu (fun h hx hb q => by subst hp; exact XS.ifnonnullNo h hx rfl (Jvm.hb hb hd) rfl q) K
/-- two references compared: same or not -/
theorem acmp {cd : ACond} {o : Int} {v w : Value} (same : Bool) (hd : decode B pc = .ok (.if_acmp cd o, 3)) (h1 : v.isRef = true) (h2 : w.isRef = true) (hc : decide (v = w) = same) (ho : 0 ≤ (pc : Int) + o) (hp : pc' = if acV cd same = true then ((pc : Int) + o).toNat else pc + 3) (K : Wq l nw Z EL a0 n0 y B ml ret R h0 Post fs h ce sl pc' L S) : Wq l nw Z EL a0 n0 y B ml ret R h0 Post fs h ce sl pc L (w :: v :: S) := fun p e s m args below meth c T locs vm k C =>
  (K p e s m args below meth c T locs vm k C).st fun u q => Jvm.RoadKit.acmp (g := mkF m pc L (w :: v :: S)) C.2.2.1 C.1.1 rfl h1 h2 (pc0 := pc) (pc' := pc') (same := same) rfl (Jvm.hb C.1.2.1 hd) rfl hc ho hp q
/-- a step that hands back a state with the same heap -/
theorem same {L' : Array Slot} {S' : List Value} (st : ∀ {p : Program} {e : Env} {s : State} {m : MethodId} {args : Array Value} {below : List Frame} {meth : Method} {c : Code} {T : State} {locs : List Loc}, p.tables.exec = Jvm.exec → c.code = B → s.vm.findClass y.cls = some m.cls → Z.Warmed39 s.vm → (∀ d ∈ tables_1, d.before a0 Z = true) → T.heap = h → c.maxLocals = ml →
      Stand p l e R s m args below meth c T locs ce sl → ∃ T', Stand p l e R s m args below meth c T' locs ce sl ∧ T'.heap = h ∧ ∀ u, Steps p.tables e below (T'.setTop (mkF m pc' L' S')) u → Steps p.tables e below (T.setTop (mkF m pc L S)) u)
    (K : Wq l nw Z EL a0 n0 y B ml ret R h0 Post fs h ce sl pc' L' S') : Wq l nw Z EL a0 n0 y B ml ret R h0 Post fs h ce sl pc L S := fun p e s m args below meth c T locs vm k C => by
  obtain ⟨⟨hx, hby, hml, hret, hlk, hnm, hown, hh0⟩, ⟨hZ, hw, hEL, hnw⟩, X, hT, ⟨hN, hO⟩, ⟨hS, hk⟩, hC, hF⟩ := C
  obtain ⟨T', X', e', q⟩ := st (s := s.setVm vm) hx hby hown hZ hw hT hml X
  exact (K p e s m args below meth c T' locs vm k ⟨⟨hx, hby, hml, hret, hlk, hnm, hown, hh0⟩, ⟨hZ, hw, hEL, hnw⟩, X', e', ⟨hN, hO⟩, ⟨hS, hk⟩, hC, hF⟩).st q
/-- a step that makes new cells -/
theorem grow {L' : Array Slot} {S' : List Value} {ce' sl' : Nat} {P : Heap → Prop} (st : ∀ {p : Program} {e : Env} {s : State} {m : MethodId} {args : Array Value} {below : List Frame} {meth : Method} {c : Code} {T : State} {locs : List Loc}, p.tables.exec = Jvm.exec → c.code = B → s.vm.findClass y.cls = some m.cls → Z.Warmed39 s.vm → (∀ d ∈ tables_1, d.before a0 Z = true) → T.heap = h → c.maxLocals = ml →
      Stand p l e R s m args below meth c T locs ce sl → ∃ T' h', Stand p l e R s m args below meth c T' locs ce' sl' ∧ T'.heap = h' ∧ Ext h h' ∧ P h' ∧ ∀ u, Steps p.tables e below (T'.setTop (mkF m pc' L' S')) u → Steps p.tables e below (T.setTop (mkF m pc L S)) u)
    {fs' : List Addr} (hfs : ∀ x ∈ fs', x ∈ fs ∨ x = h.size) (hlt : ∀ h', Ext h h' → P h' → h.size < h'.size) (K : ∀ h', Ext h h' → P h' → Wq l nw Z EL a0 n0 y B ml ret R h0 Post fs' h' ce' sl' pc' L' S') : Wq l nw Z EL a0 n0 y B ml ret R h0 Post fs h ce sl pc L S := fun p e s m args below meth c T locs vm k C => by
  obtain ⟨⟨hx, hby, hml, hret, hlk, hnm, hown, hh0⟩, ⟨hZ, hw, hEL, hnw⟩, X, hT, ⟨hN, hO⟩, ⟨hS, hk⟩, hC, hF⟩ := C
  obtain ⟨T', h', X', e', E, hP, q⟩ := st (s := s.setVm vm) hx hby hown hZ hw hT hml X
  have hC' := hC.trans (CHr.ext E hC.1)
  refine (K h' E hP p e s m args below meth c T' locs vm k ⟨⟨hx, hby, hml, hret, hlk, hnm, hown, hh0⟩, ⟨hZ, hw, hEL, hnw⟩, X', e', ⟨hN, hO.ext E⟩, ⟨hS, Nat.le_trans hk E.1⟩, hC', fun x q => ?_⟩).st q
  rcases hfs x q with r | rfl
  · exact ⟨(hF x r).1, Nat.lt_of_lt_of_le (hF x r).2.1 E.1, Safe.ext E hC.1 (hF x r).2.2⟩
  · exact ⟨by have := hO.2.1; rw [hO.1] at this; exact this, hlt h' E hP, Safe.ext E hC.1 (Safe.new (Nat.le_refl _))⟩
/-- a step that writes one slot -/
theorem wrote {S' : List Value} {a : Addr} {j : Nat} {v : Value} (st : ∀ {p : Program} {e : Env} {s : State} {m : MethodId} {args : Array Value} {below : List Frame} {meth : Method} {c : Code} {T : State} {locs : List Loc}, p.tables.exec = Jvm.exec → c.code = B → s.vm.findClass y.cls = some m.cls → meth.name = y.name → Z.Warmed39 s.vm → (∀ d ∈ tables_1, d.before a0 Z = true) → T.heap = h →
      Stand p l e R s m args below meth c T locs ce sl → ∃ T' h', Stand p l e R s m args below meth c T' (locs ++ [⟨a, j⟩]) ce sl ∧ T'.heap = h' ∧ Wr h h' a j v ∧ ∀ u, Steps p.tables e below (T'.setTop (mkF m pc' L S')) u → Steps p.tables e below (T.setTop (mkF m pc L S)) u)
    (hf : a ∈ fs) (K : ∀ h', Wr h h' a j v → Wq l nw Z EL a0 n0 y B ml ret R h0 Post fs h' ce sl pc' L S') : Wq l nw Z EL a0 n0 y B ml ret R h0 Post fs h ce sl pc L S := fun p e s m args below meth c T locs vm k C => by
  obtain ⟨⟨hx, hby, hml, hret, hlk, hnm, hown, hh0⟩, ⟨hZ, hw, hEL, hnw⟩, X, hT, ⟨hN, hO⟩, ⟨hS, hk⟩, hC, hF⟩ := C
  obtain ⟨T', h', X', e', W', q⟩ := st (s := s.setVm vm) hx hby hown hnm hZ hw hT X
  have hsf := (hF a hf).2.2
  have hsz : h'.size = h.size := W'.size
  exact (K h' W' p e s m args below meth c T' _ vm k ⟨⟨hx, hby, hml, hret, hlk, hnm, hown, hh0⟩, ⟨hZ, hw, hEL, hnw⟩, X', e', ⟨Fr.snoc X' hN (hF a hf).1, hO.wr W' (hF a hf).1⟩, ⟨hS, (by rw [hsz]; exact hk)⟩, hC.trans (CHr.wr W' hsf hC.1), fun x r => ⟨(hF x r).1, by rw [hsz]; exact (hF x r).2.1, Safe.wr W' hsf hC.1 (hF x r).2.2⟩⟩).st q
theorem wat {d : Jvm.Cond} (hw : ∀ d ∈ tables_1, d.before a0 Z = true) {i : Nat} (h : tables_1[i]? = some d) : d.before a0 Z = true := hw _ (List.mem_of_getElem? h)
theorem getfield {i ix : Nat} {C n d : String} {a : Addr} {v : Value} (hd : decode B pc = .ok (.getfield ix, 3)) (w : tables_1[i]? = some (.fieldLink y.cls ix C n d)) (F : Fld Z h a C n d v) (hp : pc + 3 = pc') (K : Wq l nw Z EL a0 n0 y B ml ret R h0 Post fs h ce sl pc' L (v :: S)) : Wq l nw Z EL a0 n0 y B ml ret R h0 Post fs h ce sl pc L (.ref a :: S) :=
  same (fun hx hby hown hZ hw hT _ X => by subst hp; exact getF X hx hZ hown (host := "") (Or.inl (wat hw w)) Via.refl hT F (g := mkF _ pc L (.ref a :: S)) rfl rfl (Jvm.hb hby hd)) K
theorem getstatic {i ix : Nat} {C n d : String} {v : Value} (hd : decode B pc = .ok (.getstatic ix, 3)) (w : tables_1[i]? = some (.fieldLink y.cls ix C n d)) (F : Sta Z h C n d v) (hp : pc + 3 = pc') (K : Wq l nw Z EL a0 n0 y B ml ret R h0 Post fs h ce sl pc' L (v :: S)) : Wq l nw Z EL a0 n0 y B ml ret R h0 Post fs h ce sl pc L S :=
  same (fun hx hby hown hZ hw hT _ X => by subst hp; exact getS2 X hx hZ hown (host := "") (Or.inl (wat hw w)) Via.refl hT F (g := mkF _ pc L S) rfl (Jvm.hb hby hd)) K
theorem putfield {i i2 i3 ix kk : Nat} {C O n d : String} {ty : FieldType} {a : Addr} {v v' old : Value} (hd : decode B pc = .ok (.putfield ix, 3)) (w : tables_1[i]? = some (.fieldLink y.cls ix O n d))
    (w2 : tables_1[i2]? = some (.lays C O n d) ∨ (tables_1[i2]? = some (.laysFinal C O n d) ∧ y.cls = O ∧ y.name = "<init>")) (w3 : tables_1[i3]? = some (.instantiable C kk))
    (F : Fld Z h a O n d old) (E : Exa Z h a C) (hty : parseFieldDescriptor d = some ty) (hn : narrow ty v = v') (hfit : fits ty v' = true) (hf : a ∈ fs) (hp : pc + 3 = pc')
    (K : ∀ h', Wr h h' a (Jvm.RoadKit.slotOf Z O n d) v' → Wq l nw Z EL a0 n0 y B ml ret R h0 Post fs h' ce sl pc' L S) : Wq l nw Z EL a0 n0 y B ml ret R h0 Post fs h ce sl pc L (v :: .ref a :: S) :=
  wrote (fun hx hby hown hnm hZ hw hT X => by subst hp; exact putFN X hx hZ hown (wat hw w) Via.refl hT F E (w2.imp (fun q => wat hw q) fun q => ⟨wat hw q.1, q.2.1, hnm.trans q.2.2⟩) (wat hw w3) hty hn hfit (g := mkF _ pc L (v :: .ref a :: S)) rfl rfl (Jvm.hb hby hd))
    hf K
theorem new {i i2 i3 ix n : Nat} {C : String} (hd : decode B pc = .ok (.new ix, 3)) (w : tables_1[i]? = some (.classLink y.cls ix C)) (w2 : tables_1[i2]? = some (.instantiable C n)) (w3 : tables_1[i3]? = some (.initialized C)) (hc : ce + 1 ≤ R.cells) (hs : sl + n ≤ R.slots) (hp : pc + 3 = pc')
    (K : ∀ h' a, a = h.size → Ext h h' → Exa Z h' a C → (∀ {O nm d : String} {ty : FieldType}, Laid Z a0 C O nm d → parseFieldDescriptor d = some ty → Fld Z h' a O nm d (defaultValue ty)) → Wq l nw Z EL a0 n0 y B ml ret R h0 Post (a :: fs) h' (ce + 1) (sl + n) pc' L (.ref a :: S)) : Wq l nw Z EL a0 n0 y B ml ret R h0 Post fs h ce sl pc L S :=
  grow (P := fun h' => Exa Z h' h.size C ∧ (∀ {O nm d : String} {ty : FieldType}, Laid Z a0 C O nm d → parseFieldDescriptor d = some ty → Fld Z h' h.size O nm d (defaultValue ty))) (fun hx hby hown hZ hw hT _ X => by
    subst hp
    obtain ⟨T', h', X', e', E, A, D, -, st⟩ := newO X hx hZ hown (wat hw w) (wat hw w2) (wat hw w3) hT (g := mkF _ pc L S) rfl (Jvm.hb hby hd) hc hs
    exact ⟨T', h', X', e', E, ⟨A, D⟩, st⟩) (fs' := h.size :: fs) (fun x q => (List.mem_cons.mp q).symm) (fun h' _ q => q.1.lt) (fun h' E q => K h' _ rfl E q.1 q.2)
theorem newarray {i cap : Nat} {aty : ArrayType} {ty : FieldType} {z : Int32} (hd : decode B pc = .ok (.newarray aty, 2)) (hty : newarray.typeOf aty = ty) (w : tables_1[i]? = some (.arrayClass ty)) (hz : ¬ z < 0) (hcap : z.toNatClampNeg ≤ cap) (hb8 : cap * 8 ≤ 536870912) (hc : ce + 1 ≤ R.cells) (hs : sl + cap ≤ R.slots) (hp : pc + 2 = pc')
    (K : ∀ h' a kc, a = h.size → Ext h h' → Arv Z h' a kc ty z [] (defaultValue ty) → Wq l nw Z EL a0 n0 y B ml ret R h0 Post (a :: fs) h' (ce + 1) (sl + cap) pc' L (.ref a :: S)) : Wq l nw Z EL a0 n0 y B ml ret R h0 Post fs h ce sl pc L (.int z :: S) :=
  grow (P := fun h' => ∃ kc, Arv Z h' h.size kc ty z [] (defaultValue ty)) (fun hx hby hown hZ hw hT _ X => by
    subst hp hty
    obtain ⟨T', h', kc, X', e', E, A, st⟩ := newP X hx hZ (wat hw w) hT (g := mkF _ pc L (.int z :: S)) rfl (Jvm.hb hby hd) rfl hz hcap hb8 hc hs
    exact ⟨T', h', X', e', E, ⟨kc, Arv.new A hz⟩, st⟩) (fs' := h.size :: fs) (fun x q => (List.mem_cons.mp q).symm) (fun h' _ q => q.elim fun kc r => r.lt) (fun h' E q => q.elim fun kc r => K h' _ kc rfl E r)
theorem arraylength {a : Addr} {kc : ClassId} {ty : FieldType} {z : Int32} {vs : List Value} {dv : Value} (hd : decode B pc = .ok (.arraylength, 1)) (F : Arv Z h a kc ty z vs dv) (hp : pc + 1 = pc') (K : Wq l nw Z EL a0 n0 y B ml ret R h0 Post fs h ce sl pc' L (.int z :: S)) : Wq l nw Z EL a0 n0 y B ml ret R h0 Post fs h ce sl pc L (.ref a :: S) :=
  same (fun {p e s m args below meth c T locs} hx hby hown hZ hw hT _ X => by
    subst hp
    obtain ⟨cl, A, -, hsz, hz, -⟩ := F
    refine ⟨T, X, hT, fun u q => X.arraylength hx (by rw [hT]; exact A.1) (State.isArrayOf_alike hZ.alike A.2.1) (g := mkF _ pc L (.ref a :: S)) rfl rfl (Jvm.hb hby hd) u ?_⟩
    rw [len_of hsz hz]; exact q) K
theorem iaload {a : Addr} {kc : ClassId} {z j : Int32} {vs : List Value} {dv v : Value} (hd : decode B pc = .ok (.iaload, 1)) (F : Arv Z h a kc .int z vs dv) (hj : ¬ j < 0 ∧ j < z) (hv : vs.getD j.toNatClampNeg dv = v) (hp : pc + 1 = pc') (K : Wq l nw Z EL a0 n0 y B ml ret R h0 Post fs h ce sl pc' L (v :: S)) : Wq l nw Z EL a0 n0 y B ml ret R h0 Post fs h ce sl pc L (.int j :: .ref a :: S) :=
  same (fun {p e s m args below meth c T locs} hx hby hown hZ hw hT _ X => by
    subst hp
    obtain ⟨cl, A, -, hsz, hz, hH, -⟩ := F
    have hin := inb_of hsz hj
    exact ⟨T, X, hT, fun u q => X.iaload hx (by rw [hT]; exact A.1) (State.isArrayOf_alike hZ.alike A.2.1) A.2.2 hin (hH.at hin hv) (g := mkF _ pc L (.int j :: .ref a :: S)) rfl rfl (Jvm.hb hby hd) u q⟩) K
theorem caload {a : Addr} {kc : ClassId} {z j : Int32} {vs : List Value} {dv v : Value} (hd : decode B pc = .ok (.caload, 1)) (F : Arv Z h a kc .char z vs dv) (hj : ¬ j < 0 ∧ j < z) (hv : vs.getD j.toNatClampNeg dv = v) (hp : pc + 1 = pc') (K : Wq l nw Z EL a0 n0 y B ml ret R h0 Post fs h ce sl pc' L (v :: S)) : Wq l nw Z EL a0 n0 y B ml ret R h0 Post fs h ce sl pc L (.int j :: .ref a :: S) :=
  same (fun {p e s m args below meth c T locs} hx hby hown hZ hw hT _ X => by
    subst hp
    obtain ⟨cl, A, -, hsz, hz, hH, -⟩ := F
    have hin := inb_of hsz hj
    exact ⟨T, X, hT, fun u q => X.caload hx (by rw [hT]; exact A.1) (State.isArrayOf_alike hZ.alike A.2.1) A.2.2 hin (hH.at hin hv) (g := mkF _ pc L (.int j :: .ref a :: S)) rfl rfl (Jvm.hb hby hd) u q⟩) K
theorem baload {a : Addr} {kc : ClassId} {z j : Int32} {vs : List Value} {dv v : Value} (hd : decode B pc = .ok (.baload, 1)) (F : Arv Z h a kc .byte z vs dv) (hj : ¬ j < 0 ∧ j < z) (hv : vs.getD j.toNatClampNeg dv = v) (hp : pc + 1 = pc') (K : Wq l nw Z EL a0 n0 y B ml ret R h0 Post fs h ce sl pc' L (v :: S)) : Wq l nw Z EL a0 n0 y B ml ret R h0 Post fs h ce sl pc L (.int j :: .ref a :: S) :=
  same (fun {p e s m args below meth c T locs} hx hby hown hZ hw hT _ X => by
    subst hp
    obtain ⟨cl, A, -, hsz, hz, hH, -⟩ := F
    have hin := inb_of hsz hj
    exact ⟨T, X, hT, fun u q => X.baloadBytes hx (by rw [hT]; exact A.1) (State.isArrayOf_alike hZ.alike A.2.1) A.2.2 hin (hH.at hin hv) (g := mkF _ pc L (.int j :: .ref a :: S)) rfl rfl (Jvm.hb hby hd) u q⟩) K
theorem laload {a : Addr} {kc : ClassId} {z j : Int32} {vs : List Value} {dv v : Value} (hd : decode B pc = .ok (.laload, 1)) (F : Arv Z h a kc .long z vs dv) (hj : ¬ j < 0 ∧ j < z) (hv : vs.getD j.toNatClampNeg dv = v) (hp : pc + 1 = pc') (K : Wq l nw Z EL a0 n0 y B ml ret R h0 Post fs h ce sl pc' L (v :: S)) : Wq l nw Z EL a0 n0 y B ml ret R h0 Post fs h ce sl pc L (.int j :: .ref a :: S) :=
  same (fun {p e s m args below meth c T locs} hx hby hown hZ hw hT _ X => by
    subst hp
    obtain ⟨cl, A, -, hsz, hz, hH, -⟩ := F
    have hin := inb_of hsz hj
    exact ⟨T, X, hT, fun u q => X.laload hx (by rw [hT]; exact A.1) (State.isArrayOf_alike hZ.alike A.2.1) A.2.2 hin (hH.at hin hv) (g := mkF _ pc L (.int j :: .ref a :: S)) rfl rfl (Jvm.hb hby hd) u q⟩) K
theorem aaload {a : Addr} {kc : ClassId} {ty : FieldType} {z j : Int32} {vs : List Value} {dv v : Value} (hd : decode B pc = .ok (.aaload, 1)) (hty : ty.isReference = true) (F : Arv Z h a kc ty z vs dv) (hj : ¬ j < 0 ∧ j < z) (hv : vs.getD j.toNatClampNeg dv = v) (hp : pc + 1 = pc') (K : Wq l nw Z EL a0 n0 y B ml ret R h0 Post fs h ce sl pc' L (v :: S)) : Wq l nw Z EL a0 n0 y B ml ret R h0 Post fs h ce sl pc L (.int j :: .ref a :: S) :=
  same (fun {p e s m args below meth c T locs} hx hby hown hZ hw hT _ X => by
    subst hp
    obtain ⟨cl, A, -, hsz, hz, hH, -⟩ := F
    have hin := inb_of hsz hj
    exact ⟨T, X, hT, fun u q => X.aaload hx (by rw [hT]; exact A.1) (State.isArrayOf_alike hZ.alike A.2.1) hty A.2.2 hin (hH.at hin hv) (g := mkF _ pc L (.int j :: .ref a :: S)) rfl rfl (Jvm.hb hby hd) u q⟩) K
theorem castore {a : Addr} {kc : ClassId} {z j x : Int32} {vs : List Value} {dv : Value} (hd : decode B pc = .ok (.castore, 1)) (F : Arv Z h a kc .char z vs dv) (hj : ¬ j < 0 ∧ j < z) (hf : a ∈ fs) (hl : j.toNatClampNeg < vs.length) (hp : pc + 1 = pc')
    (K : ∀ h', Wr h h' a j.toNatClampNeg (.int (nar .char x)) → Arv Z h' a kc .char z (vs.set j.toNatClampNeg (.int (nar .char x))) dv → Wq l nw Z EL a0 n0 y B ml ret R h0 Post fs h' ce sl pc' L S) : Wq l nw Z EL a0 n0 y B ml ret R h0 Post fs h ce sl pc L (.int x :: .int j :: .ref a :: S) := by
  obtain ⟨cl, A, q1, hsz, hz, hH, hG⟩ := F
  have hin := inb_of hsz hj
  exact wrote (fun hx hby hown hnm hZ hw hT X => by subst hp; exact stC X hx hZ hT A hin (g := mkF _ pc L (.int x :: .int j :: .ref a :: S)) rfl rfl (Jvm.hb hby hd))
    hf (fun h' W' => K h' W' (Arv.set A q1 hsz hz hH hG (fits_nar_char _) W' _ rfl hl))
theorem bastore {a : Addr} {kc : ClassId} {z j x : Int32} {vs : List Value} {dv : Value} (hd : decode B pc = .ok (.bastore, 1)) (F : Arv Z h a kc .byte z vs dv) (hj : ¬ j < 0 ∧ j < z) (hf : a ∈ fs) (hl : j.toNatClampNeg < vs.length) (hp : pc + 1 = pc')
    (K : ∀ h', Wr h h' a j.toNatClampNeg (.int (nar .byte x)) → Arv Z h' a kc .byte z (vs.set j.toNatClampNeg (.int (nar .byte x))) dv → Wq l nw Z EL a0 n0 y B ml ret R h0 Post fs h' ce sl pc' L S) : Wq l nw Z EL a0 n0 y B ml ret R h0 Post fs h ce sl pc L (.int x :: .int j :: .ref a :: S) := by
  obtain ⟨cl, A, q1, hsz, hz, hH, hG⟩ := F
  have hin := inb_of hsz hj
  exact wrote (fun hx hby hown hnm hZ hw hT X => by subst hp; exact stB X hx hZ hT A hin (g := mkF _ pc L (.int x :: .int j :: .ref a :: S)) rfl rfl (Jvm.hb hby hd))
    hf (fun h' W' => K h' W' (Arv.set A q1 hsz hz hH hG (fits_nar_byte _) W' _ rfl hl))
theorem iastore {a : Addr} {kc : ClassId} {z j x : Int32} {vs : List Value} {dv : Value} (hd : decode B pc = .ok (.iastore, 1)) (F : Arv Z h a kc .int z vs dv) (hj : ¬ j < 0 ∧ j < z) (hf : a ∈ fs) (hl : j.toNatClampNeg < vs.length) (hp : pc + 1 = pc')
    (K : ∀ h', Wr h h' a j.toNatClampNeg (.int x) → Arv Z h' a kc .int z (vs.set j.toNatClampNeg (.int x)) dv → Wq l nw Z EL a0 n0 y B ml ret R h0 Post fs h' ce sl pc' L S) : Wq l nw Z EL a0 n0 y B ml ret R h0 Post fs h ce sl pc L (.int x :: .int j :: .ref a :: S) := by
  obtain ⟨cl, A, q1, hsz, hz, hH, hG⟩ := F
  have hin := inb_of hsz hj
  exact wrote (fun hx hby hown hnm hZ hw hT X => by subst hp; exact stI X hx hZ hT A hin (g := mkF _ pc L (.int x :: .int j :: .ref a :: S)) rfl rfl (Jvm.hb hby hd))
    hf (fun h' W' => K h' W' (Arv.set A q1 hsz hz hH hG (rfl) W' _ rfl hl))
theorem cloneArr {i1 i2 i3 i4 i5 i6 ix Wd cap : Nat} {ad : String} {a : Addr} {kc : ClassId} {ty : FieldType} {z : Int32} {vs : List Value} {dv : Value} (hd : decode B pc = .ok (.invokevirtual ix, 3)) (w1 : tables_1[i1]? = some (.methodLink y.cls ix ⟨ad, "clone", "()Ljava/lang/Object;"⟩)) (w2 : tables_1[i2]? = some (.sameMethod ad "java/lang/Object" "clone" "()Ljava/lang/Object;")) (w3 : tables_1[i3]? = some (.native ⟨"java/lang/Object", "clone", "()Ljava/lang/Object;"⟩)) (w4 : tables_1[i4]? = some (.instanceMethod ⟨"java/lang/Object", "clone", "()Ljava/lang/Object;"⟩)) (w5 : tables_1[i5]? = some (.selects ad ⟨ad, "clone", "()Ljava/lang/Object;"⟩ ⟨"java/lang/Object", "clone", "()Ljava/lang/Object;"⟩)) (w6 : tables_1[i6]? = some (.castable ad "java/lang/Cloneable"))
    (F : Arv Z h a kc ty z vs dv) (E : Exa Z h a ad) (hsz : L.size = ml) (hfr : 1 ≤ R.frames) (hW : (S.map fun v => v.category).sum ≤ Wd) (hl : Wd + 14 ≤ R.locals) (hcap : z.toNatClampNeg ≤ cap) (hc : ce + 1 ≤ R.cells) (hs : sl + cap ≤ R.slots) (hp : pc + 3 = pc')
    (K : ∀ h' r, r = h.size → Ext h h' → Arv Z h' r kc ty z vs dv → Exa Z h' r ad → Wq l nw Z EL a0 n0 y B ml ret R h0 Post (r :: fs) h' (ce + 1) (sl + cap) pc' L (.ref r :: S)) : Wq l nw Z EL a0 n0 y B ml ret R h0 Post fs h ce sl pc L (.ref a :: S) :=
  grow (P := fun h' => Arv Z h' h.size kc ty z vs dv ∧ Exa Z h' h.size ad) (fun hx hby hown hZ hw hT hml X => by
    subst hp
    obtain ⟨T', h', X', e', Ex, A, E', st⟩ := cloneH X hx hZ hown (wat hw w1) (wat hw w2) (wat hw w3) (wat hw w4) (wat hw w5) (wat hw w6) hT F.arh E (g := mkF _ pc L (.ref a :: S)) rfl (hsz.trans hml.symm) rfl (Jvm.hb hby hd) hfr (W := Wd) (by show 2 * 0 + _ ≤ _; omega) hl hcap hc hs
    exact ⟨T', h', X', e', Ex, ⟨A, E'⟩, st⟩) (fs' := h.size :: fs) (fun x q => (List.mem_cons.mp q).symm) (fun h' _ q => q.1.lt) (fun h' Ex q => K h' _ rfl Ex q.1 q.2)
theorem checkcast {i ix : Nat} {C : String} {a : Addr} (hd : decode B pc = .ok (.checkcast ix, 3)) (w : tables_1[i]? = some (.classLink y.cls ix C)) (F : Ins Z h a C true) (hp : pc + 3 = pc') (K : Wq l nw Z EL a0 n0 y B ml ret R h0 Post fs h ce sl pc' L (.ref a :: S)) : Wq l nw Z EL a0 n0 y B ml ret R h0 Post fs h ce sl pc L (.ref a :: S) :=
  same (fun hx hby hown hZ hw hT _ X => by subst hp; exact castY X hx hZ hown (wat hw w) hT F (g := mkF _ pc L (.ref a :: S)) rfl rfl (Jvm.hb hby hd)) K
theorem checkcastNull {ix : Nat} (hd : decode B pc = .ok (.checkcast ix, 3)) (hp : pc + 3 = pc') (K : Wq l nw Z EL a0 n0 y B ml ret R h0 Post fs h ce sl pc' L (.null :: S)) : Wq l nw Z EL a0 n0 y B ml ret R h0 Post fs h ce sl pc L (.null :: S) :=
  same (fun {p e s m args below meth c T locs} hx hby hown hZ hw hT _ X => by subst hp; exact ⟨T, X, hT, X.checkcastNull hx (g := mkF _ pc L (.null :: S)) rfl rfl (Jvm.hb hby hd)⟩) K
theorem instanceofNull {ix : Nat} (hd : decode B pc = .ok (.instanceof ix, 3)) (hp : pc + 3 = pc') (K : Wq l nw Z EL a0 n0 y B ml ret R h0 Post fs h ce sl pc' L (.int 0 :: S)) : Wq l nw Z EL a0 n0 y B ml ret R h0 Post fs h ce sl pc L (.null :: S) :=
  same (fun {p e s m args below meth c T locs} hx hby hown hZ hw hT _ X => by subst hp; exact ⟨T, X, hT, X.instanceofNull hx (g := mkF _ pc L (.null :: S)) rfl rfl (Jvm.hb hby hd)⟩) K
theorem instanceofY {i ix : Nat} {C : String} {a : Addr} (hd : decode B pc = .ok (.instanceof ix, 3)) (w : tables_1[i]? = some (.classLink y.cls ix C)) (F : Ins Z h a C true) (hp : pc + 3 = pc') (K : Wq l nw Z EL a0 n0 y B ml ret R h0 Post fs h ce sl pc' L (.int 1 :: S)) : Wq l nw Z EL a0 n0 y B ml ret R h0 Post fs h ce sl pc L (.ref a :: S) :=
  same (fun hx hby hown hZ hw hT _ X => by subst hp; exact instY X hx hZ hown (wat hw w) hT F (g := mkF _ pc L (.ref a :: S)) rfl rfl (Jvm.hb hby hd)) K
theorem instanceofN {i ix : Nat} {C D : String} {a : Addr} (hd : decode B pc = .ok (.instanceof ix, 3)) (w : tables_1[i]? = some (.classLink y.cls ix C)) (E : Exa Z h a D) (F : ∃ c t, Z.vm.findClass D = some c ∧ Z.vm.findClass C = some t ∧ Z.vm.assignable c t = false) (hp : pc + 3 = pc') (K : Wq l nw Z EL a0 n0 y B ml ret R h0 Post fs h ce sl pc' L (.int 0 :: S)) : Wq l nw Z EL a0 n0 y B ml ret R h0 Post fs h ce sl pc L (.ref a :: S) :=
  same (fun hx hby hown hZ hw hT _ X => by subst hp; exact instNo X hx hZ hown (wat hw w) hT E F (g := mkF _ pc L (.ref a :: S)) rfl rfl (Jvm.hb hby hd)) K
theorem ldcInt {i ix : Nat} {v : Int32} (hd : decode B pc = .ok (.ldc ix, 2)) (w : tables_1[i]? = some (.constant y.cls ix v)) (hp : pc + 2 = pc') (K : Wq l nw Z EL a0 n0 y B ml ret R h0 Post fs h ce sl pc' L (.int v :: S)) : Wq l nw Z EL a0 n0 y B ml ret R h0 Post fs h ce sl pc L S :=
  same (fun {p e s m args below meth c T locs} hx hby hown hZ hw hT _ X => by subst hp; exact ⟨T, X, hT, X.ldcInt hx hown (mvT hZ (wat hw w)) (g := mkF _ pc L S) rfl (Jvm.hb hby hd)⟩) K
theorem ldc2Long {i ix : Nat} {v : Int64} (hd : decode B pc = .ok (.ldc2_w ix, 3)) (w : tables_1[i]? = some (.constantLong y.cls ix v)) (hp : pc + 3 = pc') (K : Wq l nw Z EL a0 n0 y B ml ret R h0 Post fs h ce sl pc' L (.long v :: S)) : Wq l nw Z EL a0 n0 y B ml ret R h0 Post fs h ce sl pc L S :=
  same (fun {p e s m args below meth c T locs} hx hby hown hZ hw hT _ X => by subst hp; exact ⟨T, X, hT, X.ldc2Long hx hown (mvT hZ (wat hw w)) (g := mkF _ pc L S) rfl (Jvm.hb hby hd)⟩) K
theorem ldc2Double {i ix : Nat} {v : UInt64} (hd : decode B pc = .ok (.ldc2_w ix, 3)) (w : tables_1[i]? = some (.constantDouble y.cls ix v)) (hp : pc + 3 = pc') (K : Wq l nw Z EL a0 n0 y B ml ret R h0 Post fs h ce sl pc' L (.double v :: S)) : Wq l nw Z EL a0 n0 y B ml ret R h0 Post fs h ce sl pc L S :=
  same (fun {p e s m args below meth c T locs} hx hby hown hZ hw hT _ X => by subst hp; exact ⟨T, X, hT, X.ldc2DoubleC hx hown (mvT hZ (wat hw w)) (g := mkF _ pc L S) rfl (Jvm.hb hby hd)⟩) K
theorem initObj {i i2 i3 ix Wd : Nat} {a : Addr} (hd : decode B pc = .ok (.invokespecial ix, 3)) (w : tables_1[i]? = some (.methodLink y.cls ix Lib.objectInit)) (w2 : tables_1[i2]? = some (.instanceMethod Lib.objectInit)) (w3 : tables_1[i3]? = some (.code Lib.objectInit object_method_1_code 1 none))
    (hsz : L.size = ml) (hfr : 1 ≤ R.frames) (hW : (S.map fun v => v.category).sum ≤ Wd) (hl : Wd + 12 ≤ R.locals) (hp : pc + 3 = pc') (K : Wq l nw Z EL a0 n0 y B ml ret R h0 Post fs h ce sl pc' L S) : Wq l nw Z EL a0 n0 y B ml ret R h0 Post fs h ce sl pc L (.ref a :: S) :=
  same (fun {p e s m args below meth c T locs} hx hby hown hZ hw hT hml X => by
    subst hp
    exact initO X hx hZ hown (wat hw w) (wat hw w2) (wat hw w3) hT (g := mkF _ pc L (.ref a :: S)) rfl (hsz.trans hml.symm) rfl (Jvm.hb hby hd) hfr (W := Wd) (by show 2 * 0 + _ ≤ _; omega) hl) K
/-- ldc of a String constant that EL names, its text read -/
theorem ldcStr {i ix n : Nat} {text : String} {vs : List Value} {z : Int32} (hd : decode B pc = .ok (.ldc ix, 2)) (w : tables_1[i]? = some (.stringLink y.cls ix text)) (hwS : ∀ d ∈ Bundle.stringAtoms, d ∈ tables_1) (hmem : (y.cls, ix) ∈ EL) (hnn : nw = false)
    (ht : (∀ c ∈ text.toList, c.toNat < 256) ∧ text.toList.map (fun c => Value.int (Jvm.Lit.byteI c.toNat.toUInt16)) = vs) (hz : ¬ z < 0) (hl : z.toNatClampNeg = vs.length) (hn : 4 * text.toList.length ≤ n) (hbig : n ≤ 536870912) (hc : ce + 2 ≤ R.cells) (hs : sl + (n + 4) ≤ R.slots) (hp : pc + 2 = pc')
    (K : ∀ h' a b kc, Ext h h' → Exa Z h' a "java/lang/String" → Fld Z h' a "java/lang/String" "coder" "B" (.int 0) → Fld Z h' a "java/lang/String" "value" "[B" (.ref b) → Arv Z h' b kc .byte z vs (.int 0) → (∀ x ∈ fs, x ≠ a ∧ x ≠ b) → Wq l nw Z EL a0 n0 y B ml ret R h0 Post fs h' (ce + 2) (sl + (n + 4)) pc' L (.ref a :: S)) : Wq l nw Z EL a0 n0 y B ml ret R h0 Post fs h ce sl pc L S := fun p e s m args below meth c T locs vm k C => by
  obtain ⟨⟨hx, hby, hml, hret, hlk, hnm, hown, hh0⟩, ⟨hZ, hw, hEL, hnw⟩, X, hT, ⟨hN, hO⟩, ⟨hS, hk⟩, hC, hF⟩ := C
  subst hp
  obtain ⟨a, T', h', k1, b, kc, X', e', E, hS', hk', hZ', hown', A, Co, Va, Ar, -, -, hC', -, hne, st⟩ := ldcCH X hx hZ hown (wat hw w) (fun d q => hw d (hwS d q)) hT hS hk hEL hmem hC.1 ht hz hl (g := mkF _ pc L S) rfl (Jvm.hb hby hd) hn hbig hc hs
  refine (K h' a b kc E A Co Va Ar (fun x r => hne x (hC'.safe (hF x r).2.1 (hF x r).2.2)) p e s m args below meth c T' locs T'.vm k1 ⟨⟨hx, hby, hml, hret, hlk, hnm, hown', hh0⟩, ⟨hZ', hw, hEL, fun q => by rw [hnn] at q; cases q⟩, X', e', ⟨hN, hO.ext E⟩, ⟨hS', hk'⟩, hC.trans hC', fun x r => ⟨(hF x r).1, Nat.lt_of_lt_of_le (hF x r).2.1 E.1, hC'.safe (hF x r).2.1 (hF x r).2.2⟩⟩).st st
/-- ldc of any String constant, nothing said of its text -/
theorem ldcAny {i ix n : Nat} {text : String} (hd : decode B pc = .ok (.ldc ix, 2)) (w : tables_1[i]? = some (.stringLink y.cls ix text)) (hwS : ∀ d ∈ Bundle.stringAtoms, d ∈ tables_1) (hnn : nw = false)
    (hn : 4 * text.toList.length ≤ n) (hbig : n ≤ 536870912) (hc : ce + 2 ≤ R.cells) (hs : sl + (n + 4) ≤ R.slots) (hp : pc + 2 = pc')
    (K : ∀ h' a, Ext h h' → Wq l nw Z EL a0 n0 y B ml ret R h0 Post fs h' (ce + 2) (sl + (n + 4)) pc' L (.ref a :: S)) : Wq l nw Z EL a0 n0 y B ml ret R h0 Post fs h ce sl pc L S := fun p e s m args below meth c T locs vm k C => by
  obtain ⟨⟨hx, hby, hml, hret, hlk, hnm, hown, hh0⟩, ⟨hZ, hw, hEL, hnw⟩, X, hT, ⟨hN, hO⟩, ⟨hS, hk⟩, hC, hF⟩ := C
  subst hp
  obtain ⟨a, T', h', k1, X', e', E, hS', hk', hZ', hown', hC', -, st⟩ := ldcOH X hx hZ hown (wat hw w) (fun d q => hw d (hwS d q)) hT hS hk hEL hC.1 (g := mkF _ pc L S) rfl (Jvm.hb hby hd) hn hbig hc hs
  refine (K h' a E p e s m args below meth c T' locs T'.vm k1 ⟨⟨hx, hby, hml, hret, hlk, hnm, hown', hh0⟩, ⟨hZ', hw, hEL, fun q => by rw [hnn] at q; cases q⟩, X', e', ⟨hN, hO.ext E⟩, ⟨hS', hk'⟩, hC.trans hC', fun x r => ⟨(hF x r).1, Nat.lt_of_lt_of_le (hF x r).2.1 E.1, hC'.safe (hF x r).2.1 (hF x r).2.2⟩⟩).st st
/-- the end of a walk -/
theorem leaves {v : Option Value} (hv : ret = none → v = none) (hc : ce ≤ R.cells) (hs : sl ≤ R.slots) (hP : Post v h) (st : ∀ {p : Program} {e : Env} {s : State} {m : MethodId} {args : Array Value} {below : List Frame} {meth : Method} {c : Code} {T : State} {locs : List Loc} {fs : List Frame}, p.tables.exec = Jvm.exec → c.code = B → meth.sig.returnType = ret →
      Stand p l e R s m args below meth c T locs ce sl → (∀ (f : JFrame) (acts : List Action), f.method = m → f.locked = none → f.entered = [] → (doReturn e (T.setTop f) acts v).1 = T.setFrames fs) → Steps p.tables e below (T.setTop (mkF m pc L S)) (T.setFrames fs)) : Wq l nw Z EL a0 n0 y B ml ret R h0 Post fs h ce sl pc L S := fun p e s m args below meth c T locs vm k C => by
  obtain ⟨⟨hx, hby, hml, hret, hlk, hnm, hown, hh0⟩, ⟨hZ, hw, hEL, hnw⟩, X, hT, ⟨hN, hO⟩, ⟨hS, hk⟩, hC, hF⟩ := C
  obtain ⟨fs', h1, h2, h3, hEnd⟩ := X.leaveW hS (by rw [hT]; exact hk) (v := v) (fun q => hv (hret.symm.trans q)) hlk
  have hwm : (s.setVm vm).WarmedH T.vm := X.warmed
  refine ⟨T.setFrames fs', .returned v, st hx hby hret X h1, h2, h3, v, locs, rfl, ?_, ⟨hN, ?_⟩, ?_, ⟨hEnd.1, hEnd.2.1, hEnd.2.2.1, hEnd.2.2.2.mono hc hs⟩, fun q => ?_⟩
  · show Post v T.heap
    rw [hT]; exact hP
  · show Old Z n0 T.heap
    rw [hT]; exact hO
  · show CHr Z EL s.vm h0 T.vm T.heap
    rw [hT]; exact hC.trans (CHv.at X hZ hEL hC.1)
  · show s.WarmedH T.vm
    obtain ⟨q1, -⟩ := hnw q
    subst q1; exact hwm
theorem retV (hd : decode B pc = .ok (.return_, 1)) (hr : ret = none) (hc : ce ≤ R.cells) (hs : sl ≤ R.slots) (hP : Post none h) : Wq l nw Z EL a0 n0 y B ml ret R h0 Post fs h ce sl pc L [] :=
  leaves (fun _ => rfl) hc hs hP (fun hx hby hret X hl => X.returnOut hx (hret.trans hr) (Jvm.hb hby hd) hl)
theorem retA {v : Value} {t : FieldType} (hd : decode B pc = .ok (.areturn, 1)) (hr : ret = some t) (ht : t.isReference = true) (hv : v.isRef = true) (hc : ce ≤ R.cells) (hs : sl ≤ R.slots) (hP : Post (some v) h) : Wq l nw Z EL a0 n0 y B ml ret R h0 Post fs h ce sl pc L (v :: S) :=
  leaves (fun q => by rw [hr] at q; cases q) hc hs hP (fun hx hby hret X hl => retOut X hx (hret.trans hr) (by rcases ref_cases hv with rfl | ⟨q, rfl⟩ <;> cases t <;> rfl) (Or.inr (Or.inr (Or.inr (Or.inr ⟨rfl, ht, hv⟩)))) (Jvm.hb hby hd) hl)
theorem retI {z : Int32} {t : FieldType} (hd : decode B pc = .ok (.ireturn, 1)) (hr : ret = some t) (ht : t = .int ∨ t = .boolean ∨ t = .byte ∨ t = .char ∨ t = .short) (hn : narrow t (.int z) = .int z) (hc : ce ≤ R.cells) (hs : sl ≤ R.slots) (hP : Post (some (.int z)) h) : Wq l nw Z EL a0 n0 y B ml ret R h0 Post fs h ce sl pc L (.int z :: S) :=
  leaves (fun q => by rw [hr] at q; cases q) hc hs hP (fun hx hby hret X hl => retOut X hx (hret.trans hr) hn (Or.inl ⟨rfl, ht, z, rfl⟩) (Jvm.hb hby hd) hl)
theorem retJ {z : Int64} (hd : decode B pc = .ok (.lreturn, 1)) (hr : ret = some .long) (hc : ce ≤ R.cells) (hs : sl ≤ R.slots) (hP : Post (some (.long z)) h) : Wq l nw Z EL a0 n0 y B ml ret R h0 Post fs h ce sl pc L (.long z :: S) :=
  leaves (fun q => by rw [hr] at q; cases q) hc hs hP (fun hx hby hret X hl => retOut X hx (hret.trans hr) rfl (Or.inr (Or.inl ⟨rfl, rfl, z, rfl⟩)) (Jvm.hb hby hd) hl)
theorem retD {z : UInt64} (hd : decode B pc = .ok (.dreturn, 1)) (hr : ret = some .double) (hc : ce ≤ R.cells) (hs : sl ≤ R.slots) (hP : Post (some (.double z)) h) : Wq l nw Z EL a0 n0 y B ml ret R h0 Post fs h ce sl pc L (.double z :: S) :=
  leaves (fun q => by rw [hr] at q; cases q) hc hs hP (fun hx hby hret X hl => retOut X hx (hret.trans hr) rfl (Or.inr (Or.inr (Or.inl ⟨rfl, rfl, z, rfl⟩))) (Jvm.hb hby hd) hl)
end Rules
section Calls
variable {l : Launch} {nw : Bool} {Z : State} {EL : List (String × Nat)} {a0 : Array Value} {n0 : Nat} {y : MethodName} {B : ByteArray} {ml : Nat} {ret : Option FieldType} {R : Room} {h0 : Heap} {Post : Option Value → Heap → Prop} {fs : List Addr} {h : Heap} {ce sl pc pc' : Nat} {L : Array Slot} {S : List Value}
def Met (l : Launch) (nw : Bool) (Z : State) (EL : List (String × Nat)) (n0 : Nat) (y : MethodName) (B : ByteArray) (ml : Nat) (ret : Option FieldType) (R : Room) (ws : List Jvm.Cond) (as' : Array Value) (fs : List Addr) (h : Heap) (Post : Option Value → Heap → Prop) : Prop :=
  MetFree l y (head1 (Jvm.Cond.code y B ml ret :: ws) R) (fun a U => a = as' ∧ Z.Warmed39 U.vm ∧ U.heap = h ∧ CHv Z EL U.vm h ∧ Old Z n0 h ∧ ∀ x ∈ fs, n0 ≤ x ∧ x < h.size ∧ Safe Z EL U.vm h x) (fun _ _ _ _ _ => True)
    (fun _ U o U' => ∃ v L, o = .returned v ∧ (Post v U'.heap ∧ Fr n0 L ∧ Old Z n0 U'.heap) ∧ CHr Z EL U.vm U.heap U'.vm U'.heap ∧ ReturnedEndW U o U' L R.cells R.slots ∧ (nw = true → U.WarmedH U'.vm))
theorem Met.mono {ws : List Jvm.Cond} {as' : Array Value} {Post' : Option Value → Heap → Prop} (M : Met l nw Z EL n0 y B ml ret R ws as' fs h Post) (hP : ∀ v h', Post v h' → Post' v h') : Met l nw Z EL n0 y B ml ret R ws as' fs h Post' :=
  MetFree.mono M (fun _ _ q => q) (fun _ _ _ _ _ q => q) (fun _ _ _ _ _ ⟨v, L, h1, ⟨h2, h3⟩, h4⟩ => ⟨v, L, h1, ⟨hP v _ h2, h3⟩, h4⟩)
theorem Met.of_body {ws : List Jvm.Cond} {as' : Array Value} {L0 : Array Slot} (hpl : plainFor y = true) (hent : ∀ m, entryFrame m as' ml = mkF m 0 L0 []) (hw : ∀ d ∈ tables_1, d.before a0 Z = true) (hEL : EW Z a0 EL) (hnw : nw = true → EL = [])
    (K : Wq l nw Z EL a0 n0 y B ml ret R h Post fs h 0 0 0 L0 []) : Met l nw Z EL n0 y B ml ret R ws as' fs h Post := by
  refine MetFree.of_bodySF hpl hisR ?_
  intro p e s m args below meth c s₁ Bd hml0 hP hK
  obtain ⟨rfl, hZ, hh, hCv, hO, hF⟩ := hP
  have X0 : Stand p l e R (s.setVm s.vm) m args below meth c s₁ [] 0 0 := Stand.of_body Bd
  have e0 : s₁.heap = h := by rw [← hh, Bd.state]; rfl
  have hml : c.maxLocals = ml := hml0
  obtain ⟨s₂, o, h1, h2, h3, v, L, h4, h5, h6, h7, h8, h9⟩ := K p e s m args below meth c s₁ [] s.vm 0 ⟨⟨Bd.exec, Bd.bytes, hml, Bd.returns, BodyLoose.notSynchronized Bd, (name_of_methodNamed Bd.named Bd.method).1, findClass_of_methodNamed Bd.named, hh⟩, ⟨hZ, hw, hEL, fun q => ⟨rfl, hnw q⟩⟩, X0, e0, ⟨Fr.nil n0, hO⟩, ⟨(State.WarmedH.refl s).since 0, Nat.zero_le _⟩, CHr.refl hCv, hF⟩
  exact ⟨s₂, o, castTop (hent m) h1, h2, h3, v, L, h4, ⟨h5, h6⟩, by rw [hh]; exact h7, h8, h9⟩
def Kd (l : Launch) (Z : State) (a0 : Array Value) (y : MethodName) (B : ByteArray) (ml : Nat) (R : Room) (h : Heap) (ce sl pc : Nat) (L : Array Slot) (S : List Value) (z : MethodName) (len Wd : Nat) (as' : Array Value) (S' : List Value) : Prop :=
  ∀ (p : Program) (e : Env) (s : State) (m : MethodId) (args : Array Value) (below : List Frame) (meth : Method) (c : Code) (T : State) (locs : List Loc), p.tables.exec = Jvm.exec → c.code = B → s.vm.findClass y.cls = some m.cls → Z.Warmed39 s.vm → (∀ d ∈ tables_1, d.before a0 Z = true) → T.heap = h → c.maxLocals = ml → Stand p l e R s m args below meth c T locs ce sl →
    (∀ (Pre : Pt → Array Value → Prop) (Po : Pt → Array Value → Option Value → Pt → Prop), Back l R p e below s args z len Wd Pre Po → (∀ vm₁, s.WarmedH vm₁ → Pre ⟨T.setVm vm₁, locs, ce, sl⟩ as') →
      ∃ (v : Option Value) (vm₁ : Vm) (A : Pt), s.WarmedH vm₁ ∧ Stand p l e R s m args below meth c A.U A.locs A.cells A.slots ∧ Po ⟨T.setVm vm₁, locs, ce, sl⟩ as' v A ∧ ∀ u, Steps p.tables e below (A.U.setTop (mkF m (pc + len) L (v.toList ++ S'))) u → Steps p.tables e below (T.setTop (mkF m pc L S)) u) ∧
    (∀ (Pre : Pt → Array Value → Prop) (Po : Pt → Array Value → Option Value → Pt → Prop), BackS l R p e below s args z len Wd Pre Po → (∀ vm₁, s.WarmedH vm₁ → Pre ⟨T.setVm vm₁, locs, ce, sl⟩ as') →
      ∃ (v : Option Value) (vm₁ : Vm) (A : Pt), s.WarmedH vm₁ ∧ Stand p l e R (s.setVm A.U.vm) m args below meth c A.U A.locs A.cells A.slots ∧ s.Since A.U.vm A.U.heap.size ∧ T.heap.size ≤ A.U.heap.size ∧ Po ⟨T.setVm vm₁, locs, ce, sl⟩ as' v A ∧ ∀ u, Steps p.tables e below (A.U.setTop (mkF m (pc + len) L (v.toList ++ S'))) u → Steps p.tables e below (T.setTop (mkF m pc L S)) u)
theorem kStatic {i i2 i3 i4 ix mlz Wd : Nat} {z : MethodName} {Bz : ByteArray} {retz : Option FieldType} {argsL S' : List Value} {ps : List FieldType} {rz : Option FieldType} (hd : decode B pc = .ok (.invokestatic ix, 3)) (w : tables_1[i]? = some (.methodLink y.cls ix z)) (w2 : tables_1[i2]? = some (.static z)) (w3 : tables_1[i3]? = some (.initialized z.cls)) (w4 : tables_1[i4]? = some (.code z Bz mlz retz))
    (hy : z.cls ≠ "java/lang/invoke/MethodHandle" ∧ z.cls ≠ "java/lang/invoke/VarHandle") (hsz : L.size = ml) (hpd : parseMethodDescriptor z.desc = some ⟨ps, rz⟩) (hlen : argsL.length = ps.length) (hst : S = argsL.reverse ++ S') (hW : (S'.map fun v => v.category).sum ≤ Wd) : Kd l Z a0 y B ml R h ce sl pc L S z 3 Wd argsL.toArray S' :=
  fun p e s m args below meth c T locs hx hby hown hZ hw hT hml X =>
  ⟨fun Pre Po hK hpre => by
    obtain ⟨v, vm₁, A, a1, a2, a3, a4⟩ := Jvm.LawKit.callS X hx hown (mvT hZ (wat hw w)) (mvT hZ (wat hw w2)) (mvT hZ (wat hw w3)) (mvT hZ (wat hw w4)) hy hK (g := mkF m pc L S) rfl (hsz.trans hml.symm) (argsL := argsL) (rest := S') (lenOf hpd hlen) hst (by show 2 * 0 + _ ≤ _; omega) (Jvm.hb hby hd) hpre
    exact ⟨v, vm₁, A, a1, a2, a3, a4⟩,
   fun Pre Po hK hpre => by
    obtain ⟨v, vm₁, A, a1, a2, a3, a4, a5, a6⟩ := callSS X hx hown (mvT hZ (wat hw w)) (mvT hZ (wat hw w2)) (mvT hZ (wat hw w3)) (mvT hZ (wat hw w4)) hy hK (g := mkF m pc L S) rfl (hsz.trans hml.symm) (argsL := argsL) (rest := S') (lenOf hpd hlen) hst (by show 2 * 0 + _ ≤ _; omega) (Jvm.hb hby hd) hpre
    exact ⟨v, vm₁, A, a1, a2, a3, a4, a5, fun u q => a6.trans q⟩⟩
theorem kInit {i i2 i4 ix mlz Wd : Nat} {z : MethodName} {Bz : ByteArray} {argsL S' : List Value} {a : Addr} {ps : List FieldType} {rz : Option FieldType} (hd : decode B pc = .ok (.invokespecial ix, 3)) (hz : z.name = "<init>") (w : tables_1[i]? = some (.methodLink y.cls ix z)) (w2 : tables_1[i2]? = some (.instanceMethod z)) (w4 : tables_1[i4]? = some (.code z Bz mlz none))
    (hy : z.cls ≠ "java/lang/invoke/MethodHandle" ∧ z.cls ≠ "java/lang/invoke/VarHandle") (hsz : L.size = ml) (hpd : parseMethodDescriptor z.desc = some ⟨ps, rz⟩) (hlen : argsL.length = ps.length) (hst : S = argsL.reverse ++ .ref a :: S') (hW : (S'.map fun v => v.category).sum ≤ Wd) : Kd l Z a0 y B ml R h ce sl pc L S z 3 Wd (.ref a :: argsL).toArray S' :=
  fun p e s m args below meth c T locs hx hby hown hZ hw hT hml X =>
  ⟨fun Pre Po hK hpre => by
    obtain ⟨v, vm₁, A, a1, a2, a3, a4⟩ := X.specialBack hx hz hown (mvT hZ (wat hw w)) (mvT hZ (wat hw w2)) (mvT hZ (wat hw w4)) hy hK (g := mkF m pc L S) rfl (hsz.trans hml.symm) (Steps.refl _) (a := a) (argsL := argsL) (rest := S') (lenOf hpd hlen) hst (by show 2 * 0 + _ ≤ _; omega) (Jvm.hb hby hd) hpre
    exact ⟨v, vm₁, A, a1, a2, a3, fun u q => a4.trans q⟩,
   fun Pre Po hK hpre => by
    obtain ⟨v, vm₁, A, a1, a2, a3, a4, a5, a6⟩ := X.specialBackS hx hz hown (mvT hZ (wat hw w)) (mvT hZ (wat hw w2)) (mvT hZ (wat hw w4)) hy hK (g := mkF m pc L S) rfl (hsz.trans hml.symm) (Steps.refl _) (a := a) (argsL := argsL) (rest := S') (lenOf hpd hlen) hst (by show 2 * 0 + _ ≤ _; omega) (Jvm.hb hby hd) hpre
    exact ⟨v, vm₁, A, a1, a2, a3, a4, a5, fun u q => a6.trans q⟩⟩
theorem kVirt {i i2 i3 i4 ix Wd : Nat} {z : MethodName} {C : String} {argsL S' : List Value} {a : Addr} {ps : List FieldType} {rz : Option FieldType} (hd : decode B pc = .ok (.invokevirtual ix, 3)) (w : tables_1[i]? = some (.methodLink y.cls ix z)) (w2 : tables_1[i2]? = some (.declares z)) (w3 : tables_1[i3]? = some (.selects C z z)) (w4 : tables_1[i4]? = some (.instanceMethod z)) (E : Exa Z h a C)
    (hy : z.cls ≠ "java/lang/invoke/MethodHandle" ∧ z.cls ≠ "java/lang/invoke/VarHandle") (hsz : L.size = ml) (hpd : parseMethodDescriptor z.desc = some ⟨ps, rz⟩) (hlen : argsL.length = ps.length) (hst : S = argsL.reverse ++ .ref a :: S') (hW : (S'.map fun v => v.category).sum ≤ Wd) : Kd l Z a0 y B ml R h ce sl pc L S z 3 Wd (.ref a :: argsL).toArray S' :=
  fun p e s m args below meth c T locs hx hby hown hZ hw hT hml X => by
  obtain ⟨cB, kB, q1, q2, q3⟩ := isOf (s := s) (T := T) hZ hT E
  refine ⟨fun Pre Po hK hpre => ?_, fun Pre Po hK hpre => ?_⟩
  · obtain ⟨v, vm₁, A, a1, a2, a3, a4⟩ := X.virtualBack hx hown (mvT hZ (wat hw w)) (mvT hZ (wat hw w2)) (notFace_of_selects (args := #[]) (mvT hZ (wat hw w3))) (mvT hZ (wat hw w3)) (mvT hZ (wat hw w4)) hy hK q1 q3 (g := mkF m pc L S) rfl (hsz.trans hml.symm) (Steps.refl _) (argsL := argsL) (rest := S') (lenOf hpd hlen) hst (by show 2 * 0 + _ ≤ _; omega) (Jvm.hb hby hd) hpre
    exact ⟨v, vm₁, A, a1, a2, a3, fun u q => a4.trans q⟩
  · obtain ⟨v, vm₁, A, a1, a2, a3, a4, a5, a6⟩ := X.virtualBackS hx hown (mvT hZ (wat hw w)) (mvT hZ (wat hw w2)) (notFace_of_selects (args := #[]) (mvT hZ (wat hw w3))) (mvT hZ (wat hw w3)) (mvT hZ (wat hw w4)) hy hK q1 q3 (g := mkF m pc L S) rfl (hsz.trans hml.symm) (Steps.refl _) (argsL := argsL) (rest := S') (lenOf hpd hlen) hst (by show 2 * 0 + _ ≤ _; omega) (Jvm.hb hby hd) hpre
    exact ⟨v, vm₁, A, a1, a2, a3, a4, a5, fun u q => a6.trans q⟩
theorem nilBk {vm : Vm} {x : Addr} : Safe Z [] vm h x := fun ⟨_, q, _⟩ => nomatch q
theorem nilCHv {vm : Vm} : CHv Z [] vm h := fun _ q => nomatch q
theorem nilCHr {vm vm1 : Vm} {h' : Heap} (q : h.size ≤ h'.size) : CHr Z [] vm h vm1 h' := ⟨nilCHv, q, fun _ ⟨_, r, _⟩ => nomatch r⟩
/-- a callee by its contract, as the library's calls take it -/
theorem Met.backS {p : Program} {e : Env} {below : List Frame} {s : State} {args : Array Value} {vm : Vm} {z : MethodName} {Bz : ByteArray} {mlz len Wd : Nat} {retz : Option FieldType} {Rz : Room} {as' : Array Value} {fs' : List Addr} {Pz : Option Value → Heap → Prop}
    (M : Met l nw Z EL n0 z Bz mlz retz Rz [] as' fs' h Pz) (hZ : Z.Warmed39 vm) (wc : (Jvm.Cond.code z Bz mlz retz).before a0 Z = true) (wz : (Jvm.Cond.initialized z.cls).before a0 Z = true) (hf : Rz.frames + 1 ≤ R.frames) (hl : Wd + (mlz + 11) + Rz.locals ≤ R.locals) (hEL : EW Z a0 EL) (H : CHv Z EL vm h) (hO : Old Z n0 h) (hF : ∀ x ∈ fs', n0 ≤ x ∧ x < h.size ∧ Safe Z EL vm h x) :
    BackS l R p e below (s.setVm vm) args z len Wd (fun A a => a = as' ∧ A.U.heap = h ∧ A.cells + Rz.cells ≤ R.cells ∧ A.slots + Rz.slots ≤ R.slots)
      (fun A _ v A' => ∃ Lo, (Pz v A'.U.heap ∧ Fr n0 Lo ∧ Old Z n0 A'.U.heap) ∧ A'.locs = A.locs ++ Lo ∧ A'.cells = A.cells + Rz.cells ∧ A'.slots = A.slots + Rz.slots ∧ CHr Z EL vm h A'.U.vm A'.U.heap) :=
  BackS.of_freeW (bytes := Bz) (maxL := mlz) (ret := retz) (E := fun _ first o t Lo k n => k = Rz.cells ∧ n = Rz.slots ∧ (∃ v, o = .returned v ∧ Pz v t.heap ∧ Fr n0 Lo ∧ Old Z n0 t.heap) ∧ CHr Z EL first.vm first.heap t.vm t.heap) M hf hl
    (fun m meth c A a Y hp => have hU : Z.Warmed39 A.U.vm := wtrans (s := s.setVm vm) hZ Y.warmed
      ⟨by show (Cond.and _ .tt).before a A.U = true; rw [Cond.before_and, mv hU wc]; rfl, mv hU wc, mv hU wz, hp.2.2.1, hp.2.2.2⟩)
    (fun m meth c A a g mk Y hp => ⟨hp.1, wtrans (s := s.setVm vm) hZ Y.warmed, hp.2.1, (CHv.at Y hZ hEL H).1, hO, fun x q => ⟨(hF x q).1, (hF x q).2.1, (CHv.at Y hZ hEL H).safe (hF x q).2.1 (hF x q).2.2⟩⟩) (fun _ _ _ _ _ _ _ _ _ => trivial)
    (fun _ _ _ _ ⟨v, Lo, h1, h2, h3, h4, _⟩ => ⟨Lo, _, _, h4, rfl, rfl, ⟨v, h1, h2⟩, h3⟩)
    (fun m meth c A a g mk v t Lo k n Y hp _ _ ⟨e1, e2, ⟨v', e3, e4⟩, e5⟩ => by
      cases e3; subst e1 e2
      refine ⟨Lo, e4, rfl, rfl, rfl, (CHv.at Y hZ hEL H).trans ?_⟩
      rw [← hp.2.1]; exact e5)
theorem call {i i2 : Nat} {z : MethodName} {Bz : ByteArray} {mlz len Wd : Nat} {retz : Option FieldType} {Rz : Room} {as' : Array Value} {fs' : List Addr} {Pz : Option Value → Heap → Prop} {S' : List Value} (kd : Kd l Z a0 y B ml R h ce sl pc L S z len Wd as' S') (M : Met l nw Z EL n0 z Bz mlz retz Rz [] as' fs' h Pz) (wc : tables_1[i]? = some (.code z Bz mlz retz)) (wz : tables_1[i2]? = some (.initialized z.cls))
    (hfs : ∀ x ∈ fs', x ∈ fs) (hf : Rz.frames + 1 ≤ R.frames) (hl : Wd + (mlz + 11) + Rz.locals ≤ R.locals) (hc : ce + Rz.cells ≤ R.cells) (hs : sl + Rz.slots ≤ R.slots) (hp : pc + len = pc')
    (K : ∀ v h', Pz v h' → h.size ≤ h'.size → Wq l nw Z EL a0 n0 y B ml ret R h0 Post fs h' (ce + Rz.cells) (sl + Rz.slots) pc' L (v.toList ++ S')) : Wq l nw Z EL a0 n0 y B ml ret R h0 Post fs h ce sl pc L S := fun p e s m args below meth c T locs vm k C => by
  obtain ⟨⟨hx, hby, hml, hret, hlk, hnm, hown, hh0⟩, ⟨hZ, hw, hEL, hnw⟩, X, hT, ⟨hN, hO⟩, ⟨hS, hk⟩, hC, hF⟩ := C
  subst hp
  cases hq : nw with
  | true =>
    obtain ⟨q1, rfl⟩ := hnw hq
    have M' : MetFree l z (head1 [Jvm.Cond.code z Bz mlz retz] Rz) (fun a U => a = as' ∧ Z.Warmed39 U.vm ∧ U.heap = h) (fun _ _ _ _ _ => True) (fun _ U o U' => ∃ v Lo, o = .returned v ∧ (Pz v U'.heap ∧ Fr n0 Lo ∧ Old Z n0 U'.heap ∧ h.size ≤ U'.heap.size) ∧ FrameEnd U o U' Lo Rz.cells Rz.slots) :=
      MetFree.mono M (fun a U q => ⟨q.1, q.2.1, q.2.2, nilCHv, hO, fun x r => ⟨(hF x (hfs x r)).1, (hF x (hfs x r)).2.1, nilBk⟩⟩) (fun _ _ _ _ _ q => q) (fun a U o U' hP ⟨v, Lo, h1, h2, h3, h4, h5⟩ => ⟨v, Lo, h1, ⟨h2.1, h2.2.1, h2.2.2, by have := h3.2.1; rw [hP.2.2] at this; exact this⟩, ⟨v, h1⟩, h5 hq, h4.2.2.2⟩)
    obtain ⟨v, vm₁, ⟨T', L', c', n'⟩, -, X', ⟨Lo, ⟨hP, hN', hO', hsz⟩, l1, l2, l3⟩, st⟩ := (kd p e (s.setVm vm) m args below meth c T locs hx hby hown hZ hw hT hml X).1 _ _ (backOf (W := Wd) (s := s.setVm vm) (Q := fun v h' Lo => Pz v h' ∧ Fr n0 Lo ∧ Old Z n0 h' ∧ h.size ≤ h'.size) M' hZ (wat hw wc) (wat hw wz) hf hl) (fun vm₁ _ => ⟨rfl, hT, hc, hs⟩)
    dsimp only [Pt.U, Pt.locs, Pt.cells, Pt.slots] at X' hP hO' hsz l1 l2 l3 st
    subst l1 l2 l3
    have := K v T'.heap hP hsz p e s m args below meth c T' _ vm k ⟨⟨hx, hby, hml, hret, hlk, hnm, hown, hh0⟩, ⟨hZ, hw, hEL, hnw⟩, X', rfl, ⟨hN.app hN', hO'⟩, ⟨hS, Nat.le_trans hk hsz⟩, nilCHr (Nat.le_trans hC.2.1 hsz), fun x r => ⟨(hF x r).1, Nat.lt_of_lt_of_le (hF x r).2.1 hsz, nilBk⟩⟩
    rw [hq] at this
    exact this.st st
  | false =>
    obtain ⟨v, vm₁, ⟨T', L', c', n'⟩, -, X', hS', hsz, ⟨Lo, ⟨hP, hN', hO'⟩, l1, l2, l3, hC'⟩, st⟩ := (kd p e (s.setVm vm) m args below meth c T locs hx hby hown hZ hw hT hml X).2 _ _ (Met.backS (R := R) (Wd := Wd) (a0 := a0) M hZ (wat hw wc) (wat hw wz) hf hl hEL hC.1 hO (fun x r => hF x (hfs x r))) (fun vm₁ _ => ⟨rfl, hT, hc, hs⟩)
    dsimp only [Pt.U, Pt.locs, Pt.cells, Pt.slots] at X' hP hO' hS' hsz l1 l2 l3 hC' st
    subst l1 l2 l3
    have hsz' : h.size ≤ T'.heap.size := by rw [← hT]; exact hsz
    have hW2 : (s.setVm vm).Warmed39 T'.vm := hS'.1
    have hZ' : Z.Warmed39 T'.vm := State.Warmed39.trans (t := s.setVm vm) hZ hW2
    have := K v T'.heap hP hsz' p e s m args below meth c T' _ T'.vm T'.heap.size ⟨⟨hx, hby, hml, hret, hlk, hnm, by rw [hW2.alike.findClass]; exact hown, hh0⟩, ⟨hZ', hw, hEL, fun q => by rw [hq] at q; cases q⟩, X', rfl, ⟨hN.app hN', hO'⟩, ⟨hS.trans hS' (Nat.le_trans hk hsz'), Nat.le_refl _⟩, hC.trans hC', fun x r => ⟨(hF x r).1, Nat.lt_of_lt_of_le (hF x r).2.1 hsz', hC'.safe (hF x r).2.1 (hF x r).2.2⟩⟩
    rw [hq] at this
    exact this.st st
/-- a callee by a law of the library's (or pasted) shape -/
theorem callB {z : MethodName} {len Wd kc ks : Nat} {as' : Array Value} {Qb : Option Value → Heap → List Loc → Prop} {S' : List Value} {ws : List Addr} (kd : Kd l Z a0 y B ml R h ce sl pc L S z len Wd as' S')
    (hK : ∀ {p : Program} {e : Env} {below : List Frame} {s : State} {args : Array Value}, Z.Warmed39 s.vm → (∀ d ∈ tables_1, d.before a0 Z = true) → Back l R p e below s args z len Wd (fun A a => a = as' ∧ A.U.heap = h ∧ A.cells + kc ≤ R.cells ∧ A.slots + ks ≤ R.slots) (fun A _ v A' => ∃ Lo, Qb v A'.U.heap Lo ∧ A'.locs = A.locs ++ Lo ∧ A'.cells = A.cells + kc ∧ A'.slots = A.slots + ks))
    (hws : ∀ x ∈ ws, x ∈ fs) (hQ : ∀ v h' Lo, Qb v h' Lo → Fr n0 Lo ∧ Keep h h' ws) (hc : ce + kc ≤ R.cells) (hs : sl + ks ≤ R.slots) (hp : pc + len = pc')
    (K : ∀ v h' Lo, Qb v h' Lo → Wq l nw Z EL a0 n0 y B ml ret R h0 Post fs h' (ce + kc) (sl + ks) pc' L (v.toList ++ S')) : Wq l nw Z EL a0 n0 y B ml ret R h0 Post fs h ce sl pc L S := fun p e s m args below meth c T locs vm k C => by
  obtain ⟨⟨hx, hby, hml, hret, hlk, hnm, hown, hh0⟩, ⟨hZ, hw, hEL, hnw⟩, X, hT, ⟨hN, hO⟩, ⟨hS, hk⟩, hC, hF⟩ := C
  subst hp
  obtain ⟨v, vm₁, ⟨T', L', c', n'⟩, -, X', ⟨Lo, hP, l1, l2, l3⟩, st⟩ := (kd p e (s.setVm vm) m args below meth c T locs hx hby hown hZ hw hT hml X).1 _ _ (hK (s := s.setVm vm) hZ hw) (fun vm₁ _ => ⟨rfl, hT, hc, hs⟩)
  dsimp only [Pt.U, Pt.locs, Pt.cells, Pt.slots] at X' hP l1 l2 l3 st
  subst l1 l2 l3
  obtain ⟨hN', hKp⟩ := hQ v _ Lo hP
  have hsf : ∀ x ∈ ws, Safe Z EL vm h x := fun x r => (hF x (hws x r)).2.2
  exact (K v T'.heap Lo hP p e s m args below meth c T' _ vm k ⟨⟨hx, hby, hml, hret, hlk, hnm, hown, hh0⟩, ⟨hZ, hw, hEL, hnw⟩, X', rfl, ⟨hN.app hN', hO.keep hKp (fun x r => (hF x (hws x r)).1)⟩, ⟨hS, Nat.le_trans hk hKp.1⟩, hC.trans (CHr.keep hKp hsf hC.1), fun x r => ⟨(hF x r).1, Nat.lt_of_lt_of_le (hF x r).2.1 hKp.1, Safe.keep hKp hsf hC.1 (hF x r).2.2⟩⟩).st st
end Calls
end Ow
end Jvm.Pilot.@@N@@
namespace Jvm.Pilot.@@N@@
open Jvm Jvm.ClassFile Sem Op Lib Jvm.Free Jvm.Stand Jvm.LawKit Jvm.RoadKit Bundle Jvm.Pilot.@@N@@.Jvm.D
namespace Ow
abbrev ST : String := "java/lang/String"
/-- the sets: compact strings are on; the formatter is a reference -/
def Sets (Z : State) : Prop := ∃ (zc : Int32) (fm : Value), Sta Z Z.heap ST "COMPACT_STRINGS" "Z" (.int zc) ∧ ¬ zc = 0 ∧ Sta Z Z.heap "jdk/internal/util/Preconditions" "SIOOBE_FORMATTER" "Ljava/util/function/BiFunction;" fm ∧ fm.isRef = true
abbrev lat (cs : List Int32) : List Value := (cs.map fun c => c.toInt8.toInt32).map Value.int
/-- a String of the chars cs, each 0 to 255 -/
def Str (Z : State) (h : Heap) (a : Addr) (cs : List Int32) : Prop := Exa Z h a ST ∧ Fld Z h a ST "coder" "B" (.int 0) ∧ (∃ (t : Addr) (kb : ClassId), Fld Z h a ST "value" "[B" (.ref t) ∧ Arv Z h t kb .byte (Int32.ofNat cs.length) (lat cs) (.int 0)) ∧ (∀ c ∈ cs, ¬ c < 0 ∧ ¬ (255 : Int32) < c) ∧ cs.length ≤ 4000
section StrFacts
variable {Z : State} {h h' : Heap} {a x : Addr} {cs : List Int32} {C : String} {a0 : Array Value} {k : Nat}
theorem Str.exa (F : Str Z h a cs) : Exa Z h a ST := F.1
theorem Str.lt (F : Str Z h a cs) : a < h.size := F.1.lt
theorem Str.ext (F : Str Z h a cs) (E : Ext h h') : Str Z h' a cs := by
  obtain ⟨e, c, ⟨t, kb, v, ar⟩, r⟩ := F
  exact ⟨e.ext E, c.ext E, ⟨t, kb, v.ext E, ar.ext E⟩, r⟩
theorem Str.keep1 (F : Str Z h a cs) (K : Keep h h' [x]) (ne : a ≠ x) (E : Exa Z h x C) (w : (Jvm.Cond.instantiable C k).before a0 Z = true) : Str Z h' a cs := by
  obtain ⟨e, c, ⟨t, kb, v, ar⟩, r⟩ := F
  have q : t ≠ x := Ne.symm (E.neArv ar w)
  exact ⟨e.keep K, c.keep K (ninS ne nin0), ⟨t, kb, v.keep K (ninS ne nin0), ar.keep K (ninS q nin0)⟩, r⟩
theorem up (h : ∀ c ∈ cs, ¬ c < 0 ∧ ¬ (255 : Int32) < c) : ∀ c ∈ cs, ¬ c < 0 ∧ ¬ (65535 : Int32) < c := fun c hc => ⟨(h c hc).1, fun q => (h c hc).2 (by rw [Int32.lt_iff_toInt_lt] at q ⊢; have e1 : (65535 : Int32).toInt = 65535 := rfl; have e2 : (255 : Int32).toInt = 255 := rfl; omega)⟩
theorem keepExt (K : Keep h h' []) : Ext h h' := ⟨K.1, fun q c r => K.2.1 q c r nin0⟩
theorem Str.wr1 {sl : Nat} {v : Value} (F : Str Z h a cs) (K : Wr h h' x sl v) (ne : a ≠ x) (E : Exa Z h x C) (w : (Jvm.Cond.instantiable C k).before a0 Z = true) : Str Z h' a cs := F.keep1 (Keep.of_wr K) ne E w
end StrFacts
section StrRules
variable {l : Launch} {nw : Bool} {Z : State} {EL : List (String × Nat)} {a0 : Array Value} {n0 : Nat} {y : MethodName} {B : ByteArray} {ml : Nat} {ret : Option FieldType} {R : Room} {h0 : Heap} {Post : Option Value → Heap → Prop} {fs : List Addr} {h : Heap} {ce sl pc pc' : Nat} {L : Array Slot} {S S' : List Value}
/-- new String(chars): the call of the constructor, a char[] of 1 to 4,000 chars, each 0 to 255 -/
theorem strNew {i Wd n : Nat} {x b : Addr} {kC : ClassId} {cs : List Int32} {d v0 c0 : Value} {N : Int32} (hB : Sets Z) (hws : ∀ d ∈ StrChars.Road.words, d ∈ tables_1) (wi : tables_1[i]? = some (.instantiable ST 4)) (kd : Kd l Z a0 y B ml R h ce sl pc L S (⟨"java/lang/String", "<init>", "([C)V"⟩ : MethodName) 3 Wd #[.ref x, .ref b] S')
    (E : Exa Z h x ST) (Vf : Fld Z h x ST "value" "[B" v0) (Cf : Fld Z h x ST "coder" "B" c0) (A : Arv Z h b kC .char N (cs.map Value.int) d) (hn : cs.length = n) (hN : N = Int32.ofNat n) (l0 : 0 < n) (l2 : n ≤ 4000) (hp : ∀ c ∈ cs, ¬ c < 0 ∧ ¬ (255 : Int32) < c) (hx : x ∈ fs)
    (hfr : 4 ≤ R.frames) (hlo : Wd + 65 ≤ R.locals) (hc : ce + 1 ≤ R.cells) (hs : sl + n ≤ R.slots) (hpc : pc + 3 = pc') (K : ∀ h', Keep h h' [x] → Str Z h' x cs → Wq l nw Z EL a0 n0 y B ml ret R h0 Post fs h' (ce + 1) (sl + n) pc' L S') : Wq l nw Z EL a0 n0 y B ml ret R h0 Post fs h ce sl pc L S := by
  obtain ⟨zc, fm, Cs, hz, -, -⟩ := hB
  refine old fun O _ => fsz fun F => ?_
  refine callB (ws := [x]) (kc := 1) (ks := n) (Qb := StrChars.Road.QV Z x N (cs.map fun c => c.toInt8.toInt32) h n0) kd (fun hZ hw => StrChars.Road.backV (W := Wd) hZ (fun d q => hw d (hws d q)) (kI := 4) (wat hw wi) (F x hx).1 (by have := O.2.1; rw [O.1] at this; exact this) E Vf Cf A (Cs.ext O.2) hz hn hN l0 l2 hp rfl hfr hlo)
    (fun z q => by cases List.mem_singleton.mp q; exact hx) (fun v h' Lo q => ⟨q.2.1, q.2.2.1⟩) hc hs hpc (fun v h' Lo q => ?_)
  obtain ⟨rfl, -, q3, q4, q5, t, kb, -, -, -, q6, q7⟩ := q
  exact K h' q3 ⟨q4, q5, ⟨t, kb, q6, by rw [hn, ← hN]; exact q7⟩, hp, by omega⟩
theorem strEq {i Wd : Nat} {x z : Addr} {cs ds : List Int32} (hB : Sets Z) (hws : ∀ d ∈ StrChars.Road.wordsEq, d ∈ tables_1) (wi : tables_1[i]? = some (.instantiable ST 4)) (kd : Kd l Z a0 y B ml R h ce sl pc L S (⟨"java/lang/String", "equals", "(Ljava/lang/Object;)Z"⟩ : MethodName) 3 Wd #[.ref x, .ref z] S')
    (F : Str Z h x cs) (G : Str Z h z ds) (hfr : 2 ≤ R.frames) (hlo : Wd + 28 ≤ R.locals) (hc : ce ≤ R.cells) (hs : sl ≤ R.slots) (hpc : pc + 3 = pc') (K : ∀ b : Int32, ((b = 1 ∧ cs = ds) ∨ (b = 0 ∧ ¬ cs = ds)) → Wq l nw Z EL a0 n0 y B ml ret R h0 Post fs h ce sl pc' L (.int b :: S')) : Wq l nw Z EL a0 n0 y B ml ret R h0 Post fs h ce sl pc L S := by
  obtain ⟨zc, fm, Cs, hz, -, -⟩ := hB
  obtain ⟨e, c, ⟨t, kb, v, ar⟩, hp, l2⟩ := F
  obtain ⟨e', c', ⟨t', kb', v', ar'⟩, hp', l2'⟩ := G
  refine old fun O _ => ?_
  refine callB (ws := []) (kc := 0) (ks := 0) (Qb := fun v h' Lo => ((v = some (.int 1) ∧ cs = ds) ∨ (v = some (.int 0) ∧ ¬ cs = ds)) ∧ Lo = [] ∧ h' = h) kd (fun hZ hw => StrChars.Road.eqW (W := Wd) hZ (fun d q => hw d (hws d q)) (kI := 4) (wat hw wi) e v c ar (StrChars.Road.codOf rfl fun c q => (hp c q).2) (up hp) l2 e' v' c' ar' (StrChars.Road.codOf rfl fun c q => (hp' c q).2) (up hp') l2' (Cs.ext O.2) hz hfr hlo)
    (fun z q => nomatch q) (fun v h' Lo q => by obtain ⟨-, rfl, rfl⟩ := q; exact ⟨Fr.nil _, Keep.refl _ _⟩) hc hs hpc (fun v h' Lo q => ?_)
  obtain ⟨q, rfl, rfl⟩ := q
  rcases q with ⟨rfl, q⟩ | ⟨rfl, q⟩
  · exact K 1 (Or.inl ⟨rfl, q⟩)
  · exact K 0 (Or.inr ⟨rfl, q⟩)
theorem strLen {i Wd : Nat} {x : Addr} {cs : List Int32} (hB : Sets Z) (hws : ∀ d ∈ StrChars.Road.wordsLen, d ∈ tables_1) (wi : tables_1[i]? = some (.instantiable ST 4)) (kd : Kd l Z a0 y B ml R h ce sl pc L S (⟨"java/lang/String", "length", "()I"⟩ : MethodName) 3 Wd #[.ref x] S')
    (F : Str Z h x cs) (hfr : 2 ≤ R.frames) (hlo : Wd + 25 ≤ R.locals) (hc : ce ≤ R.cells) (hs : sl ≤ R.slots) (hpc : pc + 3 = pc') (K : Wq l nw Z EL a0 n0 y B ml ret R h0 Post fs h ce sl pc' L (.int (Int32.ofNat cs.length) :: S')) : Wq l nw Z EL a0 n0 y B ml ret R h0 Post fs h ce sl pc L S := by
  obtain ⟨zc, fm, Cs, hz, -, -⟩ := hB
  obtain ⟨e, c, ⟨t, kb, v, ar⟩, hp, l2⟩ := F
  refine old fun O _ => ?_
  refine callB (ws := []) (kc := 0) (ks := 0) (Qb := fun v h' Lo => v = some (.int (Int32.ofNat cs.length)) ∧ Lo = [] ∧ h' = h) kd (fun hZ hw => StrChars.Road.lenW (W := Wd) hZ (fun d q => hw d (hws d q)) (kI := 4) (wat hw wi) e v c ar (StrChars.Road.codOf rfl fun c q => (hp c q).2) (up hp) (Cs.ext O.2) hz l2 hfr hlo)
    (fun z q => nomatch q) (fun v h' Lo q => by obtain ⟨-, rfl, rfl⟩ := q; exact ⟨Fr.nil _, Keep.refl _ _⟩) hc hs hpc (fun v h' Lo q => ?_)
  obtain ⟨rfl, rfl, rfl⟩ := q
  exact K
theorem strAt {i j Wd len : Nat} {x : Addr} {cs : List Int32} {jj c : Int32} (hB : Sets Z) (hws : ∀ d ∈ StrChars.Road.wordsChN, d ∈ tables_1) (wi : tables_1[i]? = some (.instantiable ST 4)) (kd : Kd l Z a0 y B ml R h ce sl pc L S (⟨"java/lang/String", "charAt", "(I)C"⟩ : MethodName) len Wd #[.ref x, .int jj] S')
    (F : Str Z h x cs) (hj : j < cs.length) (hjj : jj = Int32.ofNat j) (hcv : cs.getD j 0 = c) (hfr : 4 ≤ R.frames) (hlo : Wd + 53 ≤ R.locals) (hc : ce ≤ R.cells) (hs : sl ≤ R.slots) (hpc : pc + len = pc') (K : Wq l nw Z EL a0 n0 y B ml ret R h0 Post fs h ce sl pc' L (.int c :: S')) : Wq l nw Z EL a0 n0 y B ml ret R h0 Post fs h ce sl pc L S := by
  obtain ⟨zc, fm, Cs, hz, Sf, hfm⟩ := hB
  obtain ⟨e, co, ⟨t, kb, v, ar⟩, hp, l2⟩ := F
  subst hcv
  refine old fun O _ => ?_
  refine callB (ws := []) (kc := 0) (ks := 0) (Qb := fun v h' Lo => v = some (.int (cs.getD j 0)) ∧ Lo = [] ∧ h' = h) kd (fun hZ hw => StrChars.Road.chN (W := Wd) hZ (fun d q => hw d (hws d q)) (kI := 4) (wat hw wi) e v co ar (StrChars.Road.codOf rfl fun c q => (hp c q).2) (up hp) (Cs.ext O.2) hz (Sf.ext O.2) hfm l2 hj hjj hfr hlo)
    (fun z q => nomatch q) (fun v h' Lo q => by obtain ⟨-, rfl, rfl⟩ := q; exact ⟨Fr.nil _, Keep.refl _ _⟩) hc hs hpc (fun v h' Lo q => ?_)
  obtain ⟨rfl, rfl, rfl⟩ := q
  exact K
end StrRules
end Ow
end Jvm.Pilot.@@N@@
namespace Jvm.Pilot.@@N@@
open Jvm Jvm.ClassFile Sem Op Lib Jvm.Free Jvm.Stand Jvm.LawKit Jvm.RoadKit Bundle Jvm.Pilot.@@N@@.Jvm.D
namespace Ow
section Text
variable {l : Launch} {nw : Bool} {Z : State} {EL : List (String × Nat)} {a0 : Array Value} {n0 : Nat} {y : MethodName} {B : ByteArray} {ml : Nat} {ret : Option FieldType} {R : Room} {h0 : Heap} {Post : Option Value → Heap → Prop} {fs : List Addr} {h : Heap} {ce sl pc pc' : Nat} {L : Array Slot} {S : List Value}
/-- ldc of a String constant, its text told -/
theorem ldcText {i ix n : Nat} {text : String} {cs : List Int32} (hd : decode B pc = .ok (.ldc ix, 2)) (w : tables_1[i]? = some (.stringLink y.cls ix text)) (hwS : ∀ d ∈ Bundle.stringAtoms, d ∈ tables_1) (hmem : (y.cls, ix) ∈ EL) (hnn : nw = false)
    (ht : (∀ c ∈ text.toList, c.toNat < 256) ∧ text.toList.map (fun c => Value.int (Jvm.Lit.byteI c.toNat.toUInt16)) = lat cs) (hp : ∀ c ∈ cs, ¬ c < 0 ∧ ¬ (255 : Int32) < c) (hl : cs.length ≤ 4000) (hn : 4 * text.toList.length ≤ n) (hbig : n ≤ 536870912) (hc : ce + 2 ≤ R.cells) (hs : sl + (n + 4) ≤ R.slots) (hpc : pc + 2 = pc')
    (K : ∀ h' a, Ext h h' → Str Z h' a cs → (∀ x ∈ fs, x ≠ a) → Wq l nw Z EL a0 n0 y B ml ret R h0 Post fs h' (ce + 2) (sl + (n + 4)) pc' L (.ref a :: S)) : Wq l nw Z EL a0 n0 y B ml ret R h0 Post fs h ce sl pc L S := by
  have hzz : (Int32.ofNat cs.length).toInt = cs.length := Int32.toInt_ofNat_small (by omega)
  exact ldcStr hd w hwS hmem hnn ht (z := Int32.ofNat cs.length) (by rw [Int32.lt_iff_toInt_lt, hzz]; simp) (by rw [Int32.toNatClampNeg, hzz]; simp [lat]) hn hbig hc hs hpc fun h' a b kc E A C V F N => K h' a E ⟨A, C, ⟨b, kc, V, F⟩, hp, hl⟩ fun x q => (N x q).1
end Text
theorem eqNull {args : Array Value} {s : State} {t : Term} (h : (Cond.eq t .null).value args s none s [] = some true) : t.eval args s none [] s = some .null := by
  cases ht : t.eval args s none [] s with
  | none => simp [Cond.value, ht] at h
  | some v => cases v <;> simp [Cond.value, Term.eval, ht] at h ⊢
end Ow
end Jvm.Pilot.@@N@@
namespace Jvm.Pilot.@@N@@
open Jvm Jvm.ClassFile Sem Op Lib Jvm.Free Jvm.Stand Jvm.LawKit Jvm.RoadKit Bundle Jvm.Pilot.@@N@@.Jvm.D
namespace Ow
/-! From the words of a case (at the start s) to facts on the start's heap -/
section Words
variable {args : Array Value} {s : State} {t u : Term} {x : Addr} {z : Int32} {cl : Cell} {ty : FieldType}
theorem eqI (h : (Cond.eq t (.int z)).value args s none s [] = some true) : t.eval args s none [] s = some (.int z) := by
  cases ht : t.eval args s none [] s with
  | none => simp [Cond.value, ht] at h
  | some v => cases v <;> simp [Cond.value, Term.eval, ht] at h ⊢; exact h
theorem eqA (hu : u.eval args s none [] s = some (.ref x)) (h : (Cond.eq t u).value args s none s [] = some true) : t.eval args s none [] s = some (.ref x) := by
  cases ht : t.eval args s none [] s with
  | none => simp [Cond.value, ht] at h
  | some v => cases v <;> simp [Cond.value, hu, ht] at h ⊢; exact h
theorem lenI (ht : t.eval args s none [] s = some (.ref x)) (A : Arr s s.heap x cl ty) (h : (Cond.eq (.length t) (.int z)).value args s none s [] = some true) : cl.slots.size < 2 ^ 31 ∧ cl.slots.size.toInt32 = z := by
  have e := eqI h
  have q := A.fin (U := s) (Vm.Alike.refl _)
  simp only [Term.eval, ht, q, Option.bind_eq_bind, Option.bind_some] at e
  split at e
  · rename_i hlt
    exact ⟨hlt, by simpa using e⟩
  · cases e
theorem elemI {j : Int32} {v : Value} (ht : t.eval args s none [] s = some (.ref x)) (A : Arr s s.heap x cl ty) (e : (Term.elem t (.int j)).eval args s none [] s = some v) : cl.slots[j.toNatClampNeg]? = some v :=
  (elem_in e ht rfl A.1).2
/-- an array of the start: its length and components as the words say -/
theorem arr_of (hfit : Fit s) {vs : List Value} {dv : Value} (ht : t.eval args s none [] s = some (.ref x)) (h1 : (Cond.arrayOf t ty).value args s none s [] = some true) (h2 : (Cond.eq (.length t) (.int z)).value args s none s [] = some true) (hz : ¬ z < 0) (hl : z.toNatClampNeg = vs.length)
    (h3 : ∀ (i : Nat) (hi : i < vs.length), (Term.elem t (.int (Int32.ofNat i))).eval args s none [] s = some vs[i]) (hbig : vs.length < 2 ^ 31) : ∃ kc, Arv s s.heap x kc ty z vs dv := by
  obtain ⟨cl, A⟩ := Arr.start ht h1
  obtain ⟨q1, q2⟩ := lenI ht A h2
  have hsz : cl.slots.size = vs.length := by
    rw [← hl, ← q2, Int32.toNatClampNeg, len_toInt q1]; simp
  have hat : ∀ (i : Nat) (hi : i < vs.length), cl.slots[i]? = some vs[i] := fun i hi => by
    have e := elemI ht A (h3 i hi)
    have ei : (Int32.ofNat i).toNatClampNeg = i := by
      have : (Int32.ofNat i).toInt = i := Int32.toInt_ofNat_small (by omega)
      rw [Int32.toNatClampNeg, this]; simp
    rw [ei] at e
    exact e
  refine ⟨cl.cls, cl, A, rfl, hsz.trans hl.symm, hz, fun i hi => ?_, fun i hi => ?_⟩
  · have hi' : i < vs.length := by omega
    rw [hat i hi', List.getD_eq_getElem?_getD, List.getElem?_eq_getElem hi']; rfl
  · have hi' : i < vs.length := by omega
    have ei : i.toInt32.toNatClampNeg = i := by
      have : (Int32.ofNat i).toInt = i := Int32.toInt_ofNat_small (by omega)
      show (Int32.ofNat i).toNatClampNeg = i
      rw [Int32.toNatClampNeg, this]; simp
    have e : cl.slots[i.toInt32.toNatClampNeg]? = some (vs.getD i dv) := by rw [ei, hat i hi', List.getD_eq_getElem?_getD, List.getElem?_eq_getElem hi']; rfl
    exact elem_fits hfit A (idx_in (by omega) q1) e
theorem fld_start {C n d : String} {v : Value} (ht : t.eval args s none [] s = some (.ref x)) (h : (Term.field t C n d).eval args s none [] s = some v) : Fld s s.heap x C n d v := Fld.start ((fld_at ht).symm.trans h)
end Words
end Ow
end Jvm.Pilot.@@N@@
namespace Jvm.Pilot.@@N@@
open Jvm Jvm.ClassFile Sem Op Lib Jvm.Free Jvm.Stand Jvm.LawKit Jvm.RoadKit Bundle Jvm.Pilot.@@N@@.Jvm.D
namespace Ow
/-- a String of the start, as the words say -/
theorem str_of {args : Array Value} {s : State} {t : Term} {x : Addr} {cs : List Int32} {z : Int32} (hfit : Fit s) (ht : t.eval args s none [] s = some (.ref x)) (h0 : (Cond.exactly t ST).value args s none s [] = some true) (h1 : (Cond.eq (.field t ST "coder" "B") (.int 0)).value args s none s [] = some true) (h2 : (Cond.arrayOf (.field t ST "value" "[B") .byte).value args s none s [] = some true)
    (h3 : (Cond.eq (.length (.field t ST "value" "[B")) (.int z)).value args s none s [] = some true) (hz : z = Int32.ofNat cs.length) (hl : cs.length ≤ 4000) (hp : ∀ c ∈ cs, ¬ c < 0 ∧ ¬ (255 : Int32) < c)
    (h4 : ∀ (i : Nat) (hi : i < cs.length), (Term.elem (.field t ST "value" "[B") (.int (Int32.ofNat i))).eval args s none [] s = some (.int cs[i].toInt8.toInt32)) : Str s s.heap x cs := by
  obtain ⟨a, ha⟩ := arr_v h2
  have hzz : (Int32.ofNat cs.length).toInt = cs.length := Int32.toInt_ofNat_small (by omega)
  obtain ⟨kc, F⟩ := arr_of (vs := lat cs) (dv := .int 0) hfit ha h2 h3 (by subst hz; rw [Int32.lt_iff_toInt_lt, hzz]; simp) (by subst hz; rw [Int32.toNatClampNeg, hzz]; simp [lat]) (fun i hi => by
    have hi' : i < cs.length := by simpa [lat] using hi
    rw [h4 i hi']; simp [lat]) (by simp [lat]; omega)
  subst hz
  exact ⟨Exa.start ht h0, fld_start ht (eqI h1), ⟨a, kc, fld_start ht ha, F⟩, hp, hl⟩
end Ow
end Jvm.Pilot.@@N@@
namespace Jvm.Pilot.@@N@@
open Jvm Jvm.ClassFile Sem Op Lib Jvm.Free Jvm.Stand Jvm.LawKit Jvm.RoadKit Bundle Jvm.Pilot.@@N@@.Jvm.D Ow
theorem d_jdk_42_method_149_0 : decode jdk_42_method_149_code 0 = .ok (.aload_n 0, 1) := by decide +kernel
theorem d_jdk_42_method_149_1 : decode jdk_42_method_149_code 1 = .ok (.invokespecial 1, 3) := by decide +kernel
theorem d_jdk_42_method_149_4 : decode jdk_42_method_149_code 4 = .ok (.iload_n 3, 1) := by decide +kernel
theorem d_jdk_42_method_149_5 : decode jdk_42_method_149_code 5 = .ok (.ifCond .ne 22, 3) := by decide +kernel
theorem d_jdk_42_method_149_8 : decode jdk_42_method_149_code 8 = .ok (.aload_n 0, 1) := by decide +kernel
theorem d_jdk_42_method_149_9 : decode jdk_42_method_149_code 9 = .ok (.ldc 7, 2) := by decide +kernel
theorem d_jdk_42_method_149_11 : decode jdk_42_method_149_code 11 = .ok (.getfield 9, 3) := by decide +kernel
theorem d_jdk_42_method_149_14 : decode jdk_42_method_149_code 14 = .ok (.putfield 9, 3) := by decide +kernel
theorem d_jdk_42_method_149_17 : decode jdk_42_method_149_code 17 = .ok (.aload_n 0, 1) := by decide +kernel
theorem d_jdk_42_method_149_18 : decode jdk_42_method_149_code 18 = .ok (.ldc 7, 2) := by decide +kernel
theorem d_jdk_42_method_149_20 : decode jdk_42_method_149_code 20 = .ok (.getfield 15, 3) := by decide +kernel
theorem d_jdk_42_method_149_23 : decode jdk_42_method_149_code 23 = .ok (.putfield 15, 3) := by decide +kernel
theorem d_jdk_42_method_149_26 : decode jdk_42_method_149_code 26 = .ok (.return_, 1) := by decide +kernel
theorem d_jdk_42_method_3_0 : decode jdk_42_method_3_code 0 = .ok (.aload_n 0, 1) := by decide +kernel
theorem d_jdk_42_method_3_1 : decode jdk_42_method_3_code 1 = .ok (.aload_n 1, 1) := by decide +kernel
theorem d_jdk_42_method_3_2 : decode jdk_42_method_3_code 2 = .ok (.iconst 0, 1) := by decide +kernel
theorem d_jdk_42_method_3_3 : decode jdk_42_method_3_code 3 = .ok (.aload_n 1, 1) := by decide +kernel
theorem d_jdk_42_method_3_4 : decode jdk_42_method_3_code 4 = .ok (.arraylength, 1) := by decide +kernel
theorem d_jdk_42_method_3_5 : decode jdk_42_method_3_code 5 = .ok (.aconst_null, 1) := by decide +kernel
theorem d_jdk_42_method_3_6 : decode jdk_42_method_3_code 6 = .ok (.invokespecial 27, 3) := by decide +kernel
theorem d_jdk_42_method_3_9 : decode jdk_42_method_3_code 9 = .ok (.return_, 1) := by decide +kernel
theorem d_prog_16_method_1_0 : decode prog_16_method_1_code 0 = .ok (.getstatic 16, 3) := by decide +kernel
theorem d_prog_16_method_1_3 : decode prog_16_method_1_code 3 = .ok (.invokevirtual 20, 3) := by decide +kernel
theorem d_prog_16_method_1_6 : decode prog_16_method_1_code 6 = .ok (.checkcast 21, 3) := by decide +kernel
theorem d_prog_16_method_1_9 : decode prog_16_method_1_code 9 = .ok (.areturn, 1) := by decide +kernel
theorem d_jdk_32_method_1_0 : decode jdk_32_method_1_code 0 = .ok (.getstatic 1, 3) := by decide +kernel
theorem d_jdk_32_method_1_3 : decode jdk_32_method_1_code 3 = .ok (.astore_n 0, 1) := by decide +kernel
theorem d_jdk_32_method_1_4 : decode jdk_32_method_1_code 4 = .ok (.aload_n 0, 1) := by decide +kernel
theorem d_jdk_32_method_1_5 : decode jdk_32_method_1_code 5 = .ok (.areturn, 1) := by decide +kernel
theorem d_jdk_31_method_10_0 : decode jdk_31_method_10_code 0 = .ok (.aload_n 0, 1) := by decide +kernel
theorem d_jdk_31_method_10_1 : decode jdk_31_method_10_code 1 = .ok (.ifnonnull 11, 3) := by decide +kernel
theorem d_jdk_31_method_10_12 : decode jdk_31_method_10_code 12 = .ok (.aload_n 0, 1) := by decide +kernel
theorem d_jdk_31_method_10_13 : decode jdk_31_method_10_code 13 = .ok (.areturn, 1) := by decide +kernel
theorem d_jdk_32_method_2_0 : decode jdk_32_method_2_code 0 = .ok (.aload_n 0, 1) := by decide +kernel
theorem d_jdk_32_method_2_1 : decode jdk_32_method_2_code 1 = .ok (.invokespecial 7, 3) := by decide +kernel
theorem d_jdk_32_method_2_4 : decode jdk_32_method_2_code 4 = .ok (.aload_n 0, 1) := by decide +kernel
theorem d_jdk_32_method_2_5 : decode jdk_32_method_2_code 5 = .ok (.aload_n 1, 1) := by decide +kernel
theorem d_jdk_32_method_2_6 : decode jdk_32_method_2_code 6 = .ok (.putfield 13, 3) := by decide +kernel
theorem d_jdk_32_method_2_9 : decode jdk_32_method_2_code 9 = .ok (.return_, 1) := by decide +kernel
theorem d_jdk_32_method_3_0 : decode jdk_32_method_3_code 0 = .ok (.new 2, 3) := by decide +kernel
theorem d_jdk_32_method_3_3 : decode jdk_32_method_3_code 3 = .ok (.dup, 1) := by decide +kernel
theorem d_jdk_32_method_3_4 : decode jdk_32_method_3_code 4 = .ok (.aload_n 0, 1) := by decide +kernel
theorem d_jdk_32_method_3_5 : decode jdk_32_method_3_code 5 = .ok (.invokestatic 17, 3) := by decide +kernel
theorem d_jdk_32_method_3_8 : decode jdk_32_method_3_code 8 = .ok (.invokespecial 23, 3) := by decide +kernel
theorem d_jdk_32_method_3_11 : decode jdk_32_method_3_code 11 = .ok (.areturn, 1) := by decide +kernel
theorem d_jdk_32_method_15_0 : decode jdk_32_method_15_code 0 = .ok (.aload_n 0, 1) := by decide +kernel
theorem d_jdk_32_method_15_1 : decode jdk_32_method_15_code 1 = .ok (.getfield 13, 3) := by decide +kernel
theorem d_jdk_32_method_15_4 : decode jdk_32_method_15_code 4 = .ok (.ifnull 10, 3) := by decide +kernel
theorem d_jdk_32_method_15_7 : decode jdk_32_method_15_code 7 = .ok (.aload_n 0, 1) := by decide +kernel
theorem d_jdk_32_method_15_8 : decode jdk_32_method_15_code 8 = .ok (.getfield 13, 3) := by decide +kernel
theorem d_jdk_32_method_15_11 : decode jdk_32_method_15_code 11 = .ok (.goto 4, 3) := by decide +kernel
theorem d_jdk_32_method_15_14 : decode jdk_32_method_15_code 14 = .ok (.aload_n 1, 1) := by decide +kernel
theorem d_jdk_32_method_15_15 : decode jdk_32_method_15_code 15 = .ok (.areturn, 1) := by decide +kernel
theorem d_jdk_42_method_66_0 : decode jdk_42_method_66_code 0 = .ok (.aload_n 0, 1) := by decide +kernel
theorem d_jdk_42_method_66_1 : decode jdk_42_method_66_code 1 = .ok (.aload_n 1, 1) := by decide +kernel
theorem d_jdk_42_method_66_2 : decode jdk_42_method_66_code 2 = .ok (.if_acmp .ne 5, 3) := by decide +kernel
theorem d_jdk_42_method_66_7 : decode jdk_42_method_66_code 7 = .ok (.aload_n 1, 1) := by decide +kernel
theorem d_jdk_42_method_66_8 : decode jdk_42_method_66_code 8 = .ok (.instanceof 10, 3) := by decide +kernel
theorem d_jdk_42_method_66_11 : decode jdk_42_method_66_code 11 = .ok (.ifCond .eq 43, 3) := by decide +kernel
theorem d_jdk_42_method_66_54 : decode jdk_42_method_66_code 54 = .ok (.iconst 0, 1) := by decide +kernel
theorem d_jdk_42_method_66_55 : decode jdk_42_method_66_code 55 = .ok (.ireturn, 1) := by decide +kernel
theorem d_prog_16_method_6_0 : decode prog_16_method_6_code 0 = .ok (.invokestatic 42, 3) := by decide +kernel
theorem d_prog_16_method_6_3 : decode prog_16_method_6_code 3 = .ok (.astore_n 1, 1) := by decide +kernel
theorem d_prog_16_method_6_4 : decode prog_16_method_6_code 4 = .ok (.invokestatic 48, 3) := by decide +kernel
theorem d_prog_16_method_6_7 : decode prog_16_method_6_code 7 = .ok (.astore_n 2, 1) := by decide +kernel
theorem d_prog_16_method_6_8 : decode prog_16_method_6_code 8 = .ok (.aload_n 2, 1) := by decide +kernel
theorem d_prog_16_method_6_9 : decode prog_16_method_6_code 9 = .ok (.arraylength, 1) := by decide +kernel
theorem d_prog_16_method_6_10 : decode prog_16_method_6_code 10 = .ok (.istore_n 3, 1) := by decide +kernel
theorem d_prog_16_method_6_11 : decode prog_16_method_6_code 11 = .ok (.iconst 0, 1) := by decide +kernel
theorem d_prog_16_method_6_12 : decode prog_16_method_6_code 12 = .ok (.istore 4, 2) := by decide +kernel
theorem d_prog_16_method_6_14 : decode prog_16_method_6_code 14 = .ok (.iload 4, 2) := by decide +kernel
theorem d_prog_16_method_6_16 : decode prog_16_method_6_code 16 = .ok (.iload_n 3, 1) := by decide +kernel
theorem d_prog_16_method_6_17 : decode prog_16_method_6_code 17 = .ok (.if_icmp .ge 33, 3) := by decide +kernel
theorem d_prog_16_method_6_20 : decode prog_16_method_6_code 20 = .ok (.aload_n 2, 1) := by decide +kernel
theorem d_prog_16_method_6_21 : decode prog_16_method_6_code 21 = .ok (.iload 4, 2) := by decide +kernel
theorem d_prog_16_method_6_23 : decode prog_16_method_6_code 23 = .ok (.aaload, 1) := by decide +kernel
theorem d_prog_16_method_6_24 : decode prog_16_method_6_code 24 = .ok (.astore 5, 2) := by decide +kernel
theorem d_prog_16_method_6_26 : decode prog_16_method_6_code 26 = .ok (.aload 5, 2) := by decide +kernel
theorem d_prog_16_method_6_28 : decode prog_16_method_6_code 28 = .ok (.getfield 35, 3) := by decide +kernel
theorem d_prog_16_method_6_31 : decode prog_16_method_6_code 31 = .ok (.aload_n 0, 1) := by decide +kernel
theorem d_prog_16_method_6_32 : decode prog_16_method_6_code 32 = .ok (.invokevirtual 52, 3) := by decide +kernel
theorem d_prog_16_method_6_35 : decode prog_16_method_6_code 35 = .ok (.ifCond .eq 9, 3) := by decide +kernel
theorem d_prog_16_method_6_38 : decode prog_16_method_6_code 38 = .ok (.aload 5, 2) := by decide +kernel
theorem d_prog_16_method_6_40 : decode prog_16_method_6_code 40 = .ok (.invokestatic 58, 3) := by decide +kernel
theorem d_prog_16_method_6_43 : decode prog_16_method_6_code 43 = .ok (.astore_n 1, 1) := by decide +kernel
theorem d_prog_16_method_6_44 : decode prog_16_method_6_code 44 = .ok (.iinc 4 1, 3) := by decide +kernel
theorem d_prog_16_method_6_47 : decode prog_16_method_6_code 47 = .ok (.goto (-33), 3) := by decide +kernel
theorem d_prog_16_method_6_50 : decode prog_16_method_6_code 50 = .ok (.aload_n 1, 1) := by decide +kernel
theorem d_prog_16_method_6_51 : decode prog_16_method_6_code 51 = .ok (.areturn, 1) := by decide +kernel
theorem d_method_3_0 : decode method_3_code 0 = .ok (.iload_n 0, 1) := by decide +kernel
theorem d_method_3_1 : decode method_3_code 1 = .ok (.ifCond .ne 6, 3) := by decide +kernel
theorem d_method_3_4 : decode method_3_code 4 = .ok (.ldc 43, 2) := by decide +kernel
theorem d_method_3_6 : decode method_3_code 6 = .ok (.areturn, 1) := by decide +kernel
theorem d_method_3_7 : decode method_3_code 7 = .ok (.iload_n 0, 1) := by decide +kernel
theorem d_method_3_8 : decode method_3_code 8 = .ok (.iconst 1, 1) := by decide +kernel
theorem d_method_3_9 : decode method_3_code 9 = .ok (.if_icmp .ne 6, 3) := by decide +kernel
theorem d_method_3_12 : decode method_3_code 12 = .ok (.ldc 53, 2) := by decide +kernel
theorem d_method_3_14 : decode method_3_code 14 = .ok (.areturn, 1) := by decide +kernel
theorem d_method_3_15 : decode method_3_code 15 = .ok (.iload_n 0, 1) := by decide +kernel
theorem d_method_3_16 : decode method_3_code 16 = .ok (.iconst 2, 1) := by decide +kernel
theorem d_method_3_17 : decode method_3_code 17 = .ok (.if_icmp .ne 6, 3) := by decide +kernel
theorem d_method_3_20 : decode method_3_code 20 = .ok (.ldc 58, 2) := by decide +kernel
theorem d_method_3_22 : decode method_3_code 22 = .ok (.areturn, 1) := by decide +kernel
theorem d_method_3_23 : decode method_3_code 23 = .ok (.iload_n 0, 1) := by decide +kernel
theorem d_method_3_24 : decode method_3_code 24 = .ok (.iconst 3, 1) := by decide +kernel
theorem d_method_3_25 : decode method_3_code 25 = .ok (.if_icmp .ne 6, 3) := by decide +kernel
theorem d_method_3_28 : decode method_3_code 28 = .ok (.ldc 63, 2) := by decide +kernel
theorem d_method_3_30 : decode method_3_code 30 = .ok (.areturn, 1) := by decide +kernel
theorem d_method_3_31 : decode method_3_code 31 = .ok (.ldc 68, 2) := by decide +kernel
theorem d_method_3_33 : decode method_3_code 33 = .ok (.areturn, 1) := by decide +kernel
theorem d_method_4_0 : decode method_4_code 0 = .ok (.iload_n 1, 1) := by decide +kernel
theorem d_method_4_1 : decode method_4_code 1 = .ok (.aload_n 0, 1) := by decide +kernel
theorem d_method_4_2 : decode method_4_code 2 = .ok (.invokevirtual 13, 3) := by decide +kernel
theorem d_method_4_5 : decode method_4_code 5 = .ok (.if_icmp .ge 9, 3) := by decide +kernel
theorem d_method_4_8 : decode method_4_code 8 = .ok (.aload_n 0, 1) := by decide +kernel
theorem d_method_4_9 : decode method_4_code 9 = .ok (.iload_n 1, 1) := by decide +kernel
theorem d_method_4_10 : decode method_4_code 10 = .ok (.invokevirtual 70, 3) := by decide +kernel
theorem d_method_4_13 : decode method_4_code 13 = .ok (.ireturn, 1) := by decide +kernel
theorem d_method_4_14 : decode method_4_code 14 = .ok (.iload_n 2, 1) := by decide +kernel
theorem d_method_4_15 : decode method_4_code 15 = .ok (.iload_n 1, 1) := by decide +kernel
theorem d_method_4_16 : decode method_4_code 16 = .ok (.iload_n 3, 1) := by decide +kernel
theorem d_method_4_17 : decode method_4_code 17 = .ok (.imul, 1) := by decide +kernel
theorem d_method_4_18 : decode method_4_code 18 = .ok (.iadd, 1) := by decide +kernel
theorem d_method_4_19 : decode method_4_code 19 = .ok (.sipush 255, 3) := by decide +kernel
theorem d_method_4_22 : decode method_4_code 22 = .ok (.iand, 1) := by decide +kernel
theorem d_method_4_23 : decode method_4_code 23 = .ok (.i2c, 1) := by decide +kernel
theorem d_method_4_24 : decode method_4_code 24 = .ok (.ireturn, 1) := by decide +kernel
theorem d_method_5_0 : decode method_5_code 0 = .ok (.iload_n 1, 1) := by decide +kernel
theorem d_method_5_1 : decode method_5_code 1 = .ok (.ifCond .ne 7, 3) := by decide +kernel
theorem d_method_5_4 : decode method_5_code 4 = .ok (.iconst 0, 1) := by decide +kernel
theorem d_method_5_5 : decode method_5_code 5 = .ok (.newarray .char, 2) := by decide +kernel
theorem d_method_5_7 : decode method_5_code 7 = .ok (.areturn, 1) := by decide +kernel
theorem d_method_5_8 : decode method_5_code 8 = .ok (.iload_n 1, 1) := by decide +kernel
theorem d_method_5_9 : decode method_5_code 9 = .ok (.iconst 1, 1) := by decide +kernel
theorem d_method_5_10 : decode method_5_code 10 = .ok (.if_icmp .ne 13, 3) := by decide +kernel
theorem d_method_5_13 : decode method_5_code 13 = .ok (.iconst 1, 1) := by decide +kernel
theorem d_method_5_14 : decode method_5_code 14 = .ok (.newarray .char, 2) := by decide +kernel
theorem d_method_5_16 : decode method_5_code 16 = .ok (.dup, 1) := by decide +kernel
theorem d_method_5_17 : decode method_5_code 17 = .ok (.iconst 0, 1) := by decide +kernel
theorem d_method_5_18 : decode method_5_code 18 = .ok (.aload_n 0, 1) := by decide +kernel
theorem d_method_5_19 : decode method_5_code 19 = .ok (.iconst 0, 1) := by decide +kernel
theorem d_method_5_20 : decode method_5_code 20 = .ok (.caload, 1) := by decide +kernel
theorem d_method_5_21 : decode method_5_code 21 = .ok (.castore, 1) := by decide +kernel
theorem d_method_5_22 : decode method_5_code 22 = .ok (.areturn, 1) := by decide +kernel
theorem d_method_5_23 : decode method_5_code 23 = .ok (.iload_n 1, 1) := by decide +kernel
theorem d_method_5_24 : decode method_5_code 24 = .ok (.iconst 2, 1) := by decide +kernel
theorem d_method_5_25 : decode method_5_code 25 = .ok (.if_icmp .ne 19, 3) := by decide +kernel
theorem d_method_5_28 : decode method_5_code 28 = .ok (.iconst 2, 1) := by decide +kernel
theorem d_method_5_29 : decode method_5_code 29 = .ok (.newarray .char, 2) := by decide +kernel
theorem d_method_5_31 : decode method_5_code 31 = .ok (.dup, 1) := by decide +kernel
theorem d_method_5_32 : decode method_5_code 32 = .ok (.iconst 0, 1) := by decide +kernel
theorem d_method_5_33 : decode method_5_code 33 = .ok (.aload_n 0, 1) := by decide +kernel
theorem d_method_5_34 : decode method_5_code 34 = .ok (.iconst 0, 1) := by decide +kernel
theorem d_method_5_35 : decode method_5_code 35 = .ok (.caload, 1) := by decide +kernel
theorem d_method_5_36 : decode method_5_code 36 = .ok (.castore, 1) := by decide +kernel
theorem d_method_5_37 : decode method_5_code 37 = .ok (.dup, 1) := by decide +kernel
theorem d_method_5_38 : decode method_5_code 38 = .ok (.iconst 1, 1) := by decide +kernel
theorem d_method_5_39 : decode method_5_code 39 = .ok (.aload_n 0, 1) := by decide +kernel
theorem d_method_5_40 : decode method_5_code 40 = .ok (.iconst 1, 1) := by decide +kernel
theorem d_method_5_41 : decode method_5_code 41 = .ok (.caload, 1) := by decide +kernel
theorem d_method_5_42 : decode method_5_code 42 = .ok (.castore, 1) := by decide +kernel
theorem d_method_5_43 : decode method_5_code 43 = .ok (.areturn, 1) := by decide +kernel
theorem d_method_5_44 : decode method_5_code 44 = .ok (.iload_n 1, 1) := by decide +kernel
theorem d_method_5_45 : decode method_5_code 45 = .ok (.iconst 3, 1) := by decide +kernel
theorem d_method_5_46 : decode method_5_code 46 = .ok (.if_icmp .ne 25, 3) := by decide +kernel
theorem d_method_5_49 : decode method_5_code 49 = .ok (.iconst 3, 1) := by decide +kernel
theorem d_method_5_50 : decode method_5_code 50 = .ok (.newarray .char, 2) := by decide +kernel
theorem d_method_5_52 : decode method_5_code 52 = .ok (.dup, 1) := by decide +kernel
theorem d_method_5_53 : decode method_5_code 53 = .ok (.iconst 0, 1) := by decide +kernel
theorem d_method_5_54 : decode method_5_code 54 = .ok (.aload_n 0, 1) := by decide +kernel
theorem d_method_5_55 : decode method_5_code 55 = .ok (.iconst 0, 1) := by decide +kernel
theorem d_method_5_56 : decode method_5_code 56 = .ok (.caload, 1) := by decide +kernel
theorem d_method_5_57 : decode method_5_code 57 = .ok (.castore, 1) := by decide +kernel
theorem d_method_5_58 : decode method_5_code 58 = .ok (.dup, 1) := by decide +kernel
theorem d_method_5_59 : decode method_5_code 59 = .ok (.iconst 1, 1) := by decide +kernel
theorem d_method_5_60 : decode method_5_code 60 = .ok (.aload_n 0, 1) := by decide +kernel
theorem d_method_5_61 : decode method_5_code 61 = .ok (.iconst 1, 1) := by decide +kernel
theorem d_method_5_62 : decode method_5_code 62 = .ok (.caload, 1) := by decide +kernel
theorem d_method_5_63 : decode method_5_code 63 = .ok (.castore, 1) := by decide +kernel
theorem d_method_5_64 : decode method_5_code 64 = .ok (.dup, 1) := by decide +kernel
theorem d_method_5_65 : decode method_5_code 65 = .ok (.iconst 2, 1) := by decide +kernel
theorem d_method_5_66 : decode method_5_code 66 = .ok (.aload_n 0, 1) := by decide +kernel
theorem d_method_5_67 : decode method_5_code 67 = .ok (.iconst 2, 1) := by decide +kernel
theorem d_method_5_68 : decode method_5_code 68 = .ok (.caload, 1) := by decide +kernel
theorem d_method_5_69 : decode method_5_code 69 = .ok (.castore, 1) := by decide +kernel
theorem d_method_5_70 : decode method_5_code 70 = .ok (.areturn, 1) := by decide +kernel
theorem d_method_5_71 : decode method_5_code 71 = .ok (.iload_n 1, 1) := by decide +kernel
theorem d_method_5_72 : decode method_5_code 72 = .ok (.iconst 4, 1) := by decide +kernel
theorem d_method_5_73 : decode method_5_code 73 = .ok (.if_icmp .ne 31, 3) := by decide +kernel
theorem d_method_5_76 : decode method_5_code 76 = .ok (.iconst 4, 1) := by decide +kernel
theorem d_method_5_77 : decode method_5_code 77 = .ok (.newarray .char, 2) := by decide +kernel
theorem d_method_5_79 : decode method_5_code 79 = .ok (.dup, 1) := by decide +kernel
theorem d_method_5_80 : decode method_5_code 80 = .ok (.iconst 0, 1) := by decide +kernel
theorem d_method_5_81 : decode method_5_code 81 = .ok (.aload_n 0, 1) := by decide +kernel
theorem d_method_5_82 : decode method_5_code 82 = .ok (.iconst 0, 1) := by decide +kernel
theorem d_method_5_83 : decode method_5_code 83 = .ok (.caload, 1) := by decide +kernel
theorem d_method_5_84 : decode method_5_code 84 = .ok (.castore, 1) := by decide +kernel
theorem d_method_5_85 : decode method_5_code 85 = .ok (.dup, 1) := by decide +kernel
theorem d_method_5_86 : decode method_5_code 86 = .ok (.iconst 1, 1) := by decide +kernel
theorem d_method_5_87 : decode method_5_code 87 = .ok (.aload_n 0, 1) := by decide +kernel
theorem d_method_5_88 : decode method_5_code 88 = .ok (.iconst 1, 1) := by decide +kernel
theorem d_method_5_89 : decode method_5_code 89 = .ok (.caload, 1) := by decide +kernel
theorem d_method_5_90 : decode method_5_code 90 = .ok (.castore, 1) := by decide +kernel
theorem d_method_5_91 : decode method_5_code 91 = .ok (.dup, 1) := by decide +kernel
theorem d_method_5_92 : decode method_5_code 92 = .ok (.iconst 2, 1) := by decide +kernel
theorem d_method_5_93 : decode method_5_code 93 = .ok (.aload_n 0, 1) := by decide +kernel
theorem d_method_5_94 : decode method_5_code 94 = .ok (.iconst 2, 1) := by decide +kernel
theorem d_method_5_95 : decode method_5_code 95 = .ok (.caload, 1) := by decide +kernel
theorem d_method_5_96 : decode method_5_code 96 = .ok (.castore, 1) := by decide +kernel
theorem d_method_5_97 : decode method_5_code 97 = .ok (.dup, 1) := by decide +kernel
theorem d_method_5_98 : decode method_5_code 98 = .ok (.iconst 3, 1) := by decide +kernel
theorem d_method_5_99 : decode method_5_code 99 = .ok (.aload_n 0, 1) := by decide +kernel
theorem d_method_5_100 : decode method_5_code 100 = .ok (.iconst 3, 1) := by decide +kernel
theorem d_method_5_101 : decode method_5_code 101 = .ok (.caload, 1) := by decide +kernel
theorem d_method_5_102 : decode method_5_code 102 = .ok (.castore, 1) := by decide +kernel
theorem d_method_5_103 : decode method_5_code 103 = .ok (.areturn, 1) := by decide +kernel
theorem d_method_5_104 : decode method_5_code 104 = .ok (.iload_n 1, 1) := by decide +kernel
theorem d_method_5_105 : decode method_5_code 105 = .ok (.iconst 5, 1) := by decide +kernel
theorem d_method_5_106 : decode method_5_code 106 = .ok (.if_icmp .ne 37, 3) := by decide +kernel
theorem d_method_5_109 : decode method_5_code 109 = .ok (.iconst 5, 1) := by decide +kernel
theorem d_method_5_110 : decode method_5_code 110 = .ok (.newarray .char, 2) := by decide +kernel
theorem d_method_5_112 : decode method_5_code 112 = .ok (.dup, 1) := by decide +kernel
theorem d_method_5_113 : decode method_5_code 113 = .ok (.iconst 0, 1) := by decide +kernel
theorem d_method_5_114 : decode method_5_code 114 = .ok (.aload_n 0, 1) := by decide +kernel
theorem d_method_5_115 : decode method_5_code 115 = .ok (.iconst 0, 1) := by decide +kernel
theorem d_method_5_116 : decode method_5_code 116 = .ok (.caload, 1) := by decide +kernel
theorem d_method_5_117 : decode method_5_code 117 = .ok (.castore, 1) := by decide +kernel
theorem d_method_5_118 : decode method_5_code 118 = .ok (.dup, 1) := by decide +kernel
theorem d_method_5_119 : decode method_5_code 119 = .ok (.iconst 1, 1) := by decide +kernel
theorem d_method_5_120 : decode method_5_code 120 = .ok (.aload_n 0, 1) := by decide +kernel
theorem d_method_5_121 : decode method_5_code 121 = .ok (.iconst 1, 1) := by decide +kernel
theorem d_method_5_122 : decode method_5_code 122 = .ok (.caload, 1) := by decide +kernel
theorem d_method_5_123 : decode method_5_code 123 = .ok (.castore, 1) := by decide +kernel
theorem d_method_5_124 : decode method_5_code 124 = .ok (.dup, 1) := by decide +kernel
theorem d_method_5_125 : decode method_5_code 125 = .ok (.iconst 2, 1) := by decide +kernel
theorem d_method_5_126 : decode method_5_code 126 = .ok (.aload_n 0, 1) := by decide +kernel
theorem d_method_5_127 : decode method_5_code 127 = .ok (.iconst 2, 1) := by decide +kernel
theorem d_method_5_128 : decode method_5_code 128 = .ok (.caload, 1) := by decide +kernel
theorem d_method_5_129 : decode method_5_code 129 = .ok (.castore, 1) := by decide +kernel
theorem d_method_5_130 : decode method_5_code 130 = .ok (.dup, 1) := by decide +kernel
theorem d_method_5_131 : decode method_5_code 131 = .ok (.iconst 3, 1) := by decide +kernel
theorem d_method_5_132 : decode method_5_code 132 = .ok (.aload_n 0, 1) := by decide +kernel
theorem d_method_5_133 : decode method_5_code 133 = .ok (.iconst 3, 1) := by decide +kernel
theorem d_method_5_134 : decode method_5_code 134 = .ok (.caload, 1) := by decide +kernel
theorem d_method_5_135 : decode method_5_code 135 = .ok (.castore, 1) := by decide +kernel
theorem d_method_5_136 : decode method_5_code 136 = .ok (.dup, 1) := by decide +kernel
theorem d_method_5_137 : decode method_5_code 137 = .ok (.iconst 4, 1) := by decide +kernel
theorem d_method_5_138 : decode method_5_code 138 = .ok (.aload_n 0, 1) := by decide +kernel
theorem d_method_5_139 : decode method_5_code 139 = .ok (.iconst 4, 1) := by decide +kernel
theorem d_method_5_140 : decode method_5_code 140 = .ok (.caload, 1) := by decide +kernel
theorem d_method_5_141 : decode method_5_code 141 = .ok (.castore, 1) := by decide +kernel
theorem d_method_5_142 : decode method_5_code 142 = .ok (.areturn, 1) := by decide +kernel
theorem d_method_5_143 : decode method_5_code 143 = .ok (.iload_n 1, 1) := by decide +kernel
theorem d_method_5_144 : decode method_5_code 144 = .ok (.bipush 6, 2) := by decide +kernel
theorem d_method_5_146 : decode method_5_code 146 = .ok (.if_icmp .ne 44, 3) := by decide +kernel
theorem d_method_5_149 : decode method_5_code 149 = .ok (.bipush 6, 2) := by decide +kernel
theorem d_method_5_151 : decode method_5_code 151 = .ok (.newarray .char, 2) := by decide +kernel
theorem d_method_5_153 : decode method_5_code 153 = .ok (.dup, 1) := by decide +kernel
theorem d_method_5_154 : decode method_5_code 154 = .ok (.iconst 0, 1) := by decide +kernel
theorem d_method_5_155 : decode method_5_code 155 = .ok (.aload_n 0, 1) := by decide +kernel
theorem d_method_5_156 : decode method_5_code 156 = .ok (.iconst 0, 1) := by decide +kernel
theorem d_method_5_157 : decode method_5_code 157 = .ok (.caload, 1) := by decide +kernel
theorem d_method_5_158 : decode method_5_code 158 = .ok (.castore, 1) := by decide +kernel
theorem d_method_5_159 : decode method_5_code 159 = .ok (.dup, 1) := by decide +kernel
theorem d_method_5_160 : decode method_5_code 160 = .ok (.iconst 1, 1) := by decide +kernel
theorem d_method_5_161 : decode method_5_code 161 = .ok (.aload_n 0, 1) := by decide +kernel
theorem d_method_5_162 : decode method_5_code 162 = .ok (.iconst 1, 1) := by decide +kernel
theorem d_method_5_163 : decode method_5_code 163 = .ok (.caload, 1) := by decide +kernel
theorem d_method_5_164 : decode method_5_code 164 = .ok (.castore, 1) := by decide +kernel
theorem d_method_5_165 : decode method_5_code 165 = .ok (.dup, 1) := by decide +kernel
theorem d_method_5_166 : decode method_5_code 166 = .ok (.iconst 2, 1) := by decide +kernel
theorem d_method_5_167 : decode method_5_code 167 = .ok (.aload_n 0, 1) := by decide +kernel
theorem d_method_5_168 : decode method_5_code 168 = .ok (.iconst 2, 1) := by decide +kernel
theorem d_method_5_169 : decode method_5_code 169 = .ok (.caload, 1) := by decide +kernel
theorem d_method_5_170 : decode method_5_code 170 = .ok (.castore, 1) := by decide +kernel
theorem d_method_5_171 : decode method_5_code 171 = .ok (.dup, 1) := by decide +kernel
theorem d_method_5_172 : decode method_5_code 172 = .ok (.iconst 3, 1) := by decide +kernel
theorem d_method_5_173 : decode method_5_code 173 = .ok (.aload_n 0, 1) := by decide +kernel
theorem d_method_5_174 : decode method_5_code 174 = .ok (.iconst 3, 1) := by decide +kernel
theorem d_method_5_175 : decode method_5_code 175 = .ok (.caload, 1) := by decide +kernel
theorem d_method_5_176 : decode method_5_code 176 = .ok (.castore, 1) := by decide +kernel
theorem d_method_5_177 : decode method_5_code 177 = .ok (.dup, 1) := by decide +kernel
theorem d_method_5_178 : decode method_5_code 178 = .ok (.iconst 4, 1) := by decide +kernel
theorem d_method_5_179 : decode method_5_code 179 = .ok (.aload_n 0, 1) := by decide +kernel
theorem d_method_5_180 : decode method_5_code 180 = .ok (.iconst 4, 1) := by decide +kernel
theorem d_method_5_181 : decode method_5_code 181 = .ok (.caload, 1) := by decide +kernel
theorem d_method_5_182 : decode method_5_code 182 = .ok (.castore, 1) := by decide +kernel
theorem d_method_5_183 : decode method_5_code 183 = .ok (.dup, 1) := by decide +kernel
theorem d_method_5_184 : decode method_5_code 184 = .ok (.iconst 5, 1) := by decide +kernel
theorem d_method_5_185 : decode method_5_code 185 = .ok (.aload_n 0, 1) := by decide +kernel
theorem d_method_5_186 : decode method_5_code 186 = .ok (.iconst 5, 1) := by decide +kernel
theorem d_method_5_187 : decode method_5_code 187 = .ok (.caload, 1) := by decide +kernel
theorem d_method_5_188 : decode method_5_code 188 = .ok (.castore, 1) := by decide +kernel
theorem d_method_5_189 : decode method_5_code 189 = .ok (.areturn, 1) := by decide +kernel
theorem d_method_5_190 : decode method_5_code 190 = .ok (.iload_n 1, 1) := by decide +kernel
theorem d_method_5_191 : decode method_5_code 191 = .ok (.bipush 7, 2) := by decide +kernel
theorem d_method_5_193 : decode method_5_code 193 = .ok (.if_icmp .ne 52, 3) := by decide +kernel
theorem d_method_5_196 : decode method_5_code 196 = .ok (.bipush 7, 2) := by decide +kernel
theorem d_method_5_198 : decode method_5_code 198 = .ok (.newarray .char, 2) := by decide +kernel
theorem d_method_5_200 : decode method_5_code 200 = .ok (.dup, 1) := by decide +kernel
theorem d_method_5_201 : decode method_5_code 201 = .ok (.iconst 0, 1) := by decide +kernel
theorem d_method_5_202 : decode method_5_code 202 = .ok (.aload_n 0, 1) := by decide +kernel
theorem d_method_5_203 : decode method_5_code 203 = .ok (.iconst 0, 1) := by decide +kernel
theorem d_method_5_204 : decode method_5_code 204 = .ok (.caload, 1) := by decide +kernel
theorem d_method_5_205 : decode method_5_code 205 = .ok (.castore, 1) := by decide +kernel
theorem d_method_5_206 : decode method_5_code 206 = .ok (.dup, 1) := by decide +kernel
theorem d_method_5_207 : decode method_5_code 207 = .ok (.iconst 1, 1) := by decide +kernel
theorem d_method_5_208 : decode method_5_code 208 = .ok (.aload_n 0, 1) := by decide +kernel
theorem d_method_5_209 : decode method_5_code 209 = .ok (.iconst 1, 1) := by decide +kernel
theorem d_method_5_210 : decode method_5_code 210 = .ok (.caload, 1) := by decide +kernel
theorem d_method_5_211 : decode method_5_code 211 = .ok (.castore, 1) := by decide +kernel
theorem d_method_5_212 : decode method_5_code 212 = .ok (.dup, 1) := by decide +kernel
theorem d_method_5_213 : decode method_5_code 213 = .ok (.iconst 2, 1) := by decide +kernel
theorem d_method_5_214 : decode method_5_code 214 = .ok (.aload_n 0, 1) := by decide +kernel
theorem d_method_5_215 : decode method_5_code 215 = .ok (.iconst 2, 1) := by decide +kernel
theorem d_method_5_216 : decode method_5_code 216 = .ok (.caload, 1) := by decide +kernel
theorem d_method_5_217 : decode method_5_code 217 = .ok (.castore, 1) := by decide +kernel
theorem d_method_5_218 : decode method_5_code 218 = .ok (.dup, 1) := by decide +kernel
theorem d_method_5_219 : decode method_5_code 219 = .ok (.iconst 3, 1) := by decide +kernel
theorem d_method_5_220 : decode method_5_code 220 = .ok (.aload_n 0, 1) := by decide +kernel
theorem d_method_5_221 : decode method_5_code 221 = .ok (.iconst 3, 1) := by decide +kernel
theorem d_method_5_222 : decode method_5_code 222 = .ok (.caload, 1) := by decide +kernel
theorem d_method_5_223 : decode method_5_code 223 = .ok (.castore, 1) := by decide +kernel
theorem d_method_5_224 : decode method_5_code 224 = .ok (.dup, 1) := by decide +kernel
theorem d_method_5_225 : decode method_5_code 225 = .ok (.iconst 4, 1) := by decide +kernel
theorem d_method_5_226 : decode method_5_code 226 = .ok (.aload_n 0, 1) := by decide +kernel
theorem d_method_5_227 : decode method_5_code 227 = .ok (.iconst 4, 1) := by decide +kernel
theorem d_method_5_228 : decode method_5_code 228 = .ok (.caload, 1) := by decide +kernel
theorem d_method_5_229 : decode method_5_code 229 = .ok (.castore, 1) := by decide +kernel
theorem d_method_5_230 : decode method_5_code 230 = .ok (.dup, 1) := by decide +kernel
theorem d_method_5_231 : decode method_5_code 231 = .ok (.iconst 5, 1) := by decide +kernel
theorem d_method_5_232 : decode method_5_code 232 = .ok (.aload_n 0, 1) := by decide +kernel
theorem d_method_5_233 : decode method_5_code 233 = .ok (.iconst 5, 1) := by decide +kernel
theorem d_method_5_234 : decode method_5_code 234 = .ok (.caload, 1) := by decide +kernel
theorem d_method_5_235 : decode method_5_code 235 = .ok (.castore, 1) := by decide +kernel
theorem d_method_5_236 : decode method_5_code 236 = .ok (.dup, 1) := by decide +kernel
theorem d_method_5_237 : decode method_5_code 237 = .ok (.bipush 6, 2) := by decide +kernel
theorem d_method_5_239 : decode method_5_code 239 = .ok (.aload_n 0, 1) := by decide +kernel
theorem d_method_5_240 : decode method_5_code 240 = .ok (.bipush 6, 2) := by decide +kernel
theorem d_method_5_242 : decode method_5_code 242 = .ok (.caload, 1) := by decide +kernel
theorem d_method_5_243 : decode method_5_code 243 = .ok (.castore, 1) := by decide +kernel
theorem d_method_5_244 : decode method_5_code 244 = .ok (.areturn, 1) := by decide +kernel
theorem d_method_5_245 : decode method_5_code 245 = .ok (.iload_n 1, 1) := by decide +kernel
theorem d_method_5_246 : decode method_5_code 246 = .ok (.bipush 8, 2) := by decide +kernel
theorem d_method_5_248 : decode method_5_code 248 = .ok (.if_icmp .ne 60, 3) := by decide +kernel
theorem d_method_5_251 : decode method_5_code 251 = .ok (.bipush 8, 2) := by decide +kernel
theorem d_method_5_253 : decode method_5_code 253 = .ok (.newarray .char, 2) := by decide +kernel
theorem d_method_5_255 : decode method_5_code 255 = .ok (.dup, 1) := by decide +kernel
theorem d_method_5_256 : decode method_5_code 256 = .ok (.iconst 0, 1) := by decide +kernel
theorem d_method_5_257 : decode method_5_code 257 = .ok (.aload_n 0, 1) := by decide +kernel
theorem d_method_5_258 : decode method_5_code 258 = .ok (.iconst 0, 1) := by decide +kernel
theorem d_method_5_259 : decode method_5_code 259 = .ok (.caload, 1) := by decide +kernel
theorem d_method_5_260 : decode method_5_code 260 = .ok (.castore, 1) := by decide +kernel
theorem d_method_5_261 : decode method_5_code 261 = .ok (.dup, 1) := by decide +kernel
theorem d_method_5_262 : decode method_5_code 262 = .ok (.iconst 1, 1) := by decide +kernel
theorem d_method_5_263 : decode method_5_code 263 = .ok (.aload_n 0, 1) := by decide +kernel
theorem d_method_5_264 : decode method_5_code 264 = .ok (.iconst 1, 1) := by decide +kernel
theorem d_method_5_265 : decode method_5_code 265 = .ok (.caload, 1) := by decide +kernel
theorem d_method_5_266 : decode method_5_code 266 = .ok (.castore, 1) := by decide +kernel
theorem d_method_5_267 : decode method_5_code 267 = .ok (.dup, 1) := by decide +kernel
theorem d_method_5_268 : decode method_5_code 268 = .ok (.iconst 2, 1) := by decide +kernel
theorem d_method_5_269 : decode method_5_code 269 = .ok (.aload_n 0, 1) := by decide +kernel
theorem d_method_5_270 : decode method_5_code 270 = .ok (.iconst 2, 1) := by decide +kernel
theorem d_method_5_271 : decode method_5_code 271 = .ok (.caload, 1) := by decide +kernel
theorem d_method_5_272 : decode method_5_code 272 = .ok (.castore, 1) := by decide +kernel
theorem d_method_5_273 : decode method_5_code 273 = .ok (.dup, 1) := by decide +kernel
theorem d_method_5_274 : decode method_5_code 274 = .ok (.iconst 3, 1) := by decide +kernel
theorem d_method_5_275 : decode method_5_code 275 = .ok (.aload_n 0, 1) := by decide +kernel
theorem d_method_5_276 : decode method_5_code 276 = .ok (.iconst 3, 1) := by decide +kernel
theorem d_method_5_277 : decode method_5_code 277 = .ok (.caload, 1) := by decide +kernel
theorem d_method_5_278 : decode method_5_code 278 = .ok (.castore, 1) := by decide +kernel
theorem d_method_5_279 : decode method_5_code 279 = .ok (.dup, 1) := by decide +kernel
theorem d_method_5_280 : decode method_5_code 280 = .ok (.iconst 4, 1) := by decide +kernel
theorem d_method_5_281 : decode method_5_code 281 = .ok (.aload_n 0, 1) := by decide +kernel
theorem d_method_5_282 : decode method_5_code 282 = .ok (.iconst 4, 1) := by decide +kernel
theorem d_method_5_283 : decode method_5_code 283 = .ok (.caload, 1) := by decide +kernel
theorem d_method_5_284 : decode method_5_code 284 = .ok (.castore, 1) := by decide +kernel
theorem d_method_5_285 : decode method_5_code 285 = .ok (.dup, 1) := by decide +kernel
theorem d_method_5_286 : decode method_5_code 286 = .ok (.iconst 5, 1) := by decide +kernel
theorem d_method_5_287 : decode method_5_code 287 = .ok (.aload_n 0, 1) := by decide +kernel
theorem d_method_5_288 : decode method_5_code 288 = .ok (.iconst 5, 1) := by decide +kernel
theorem d_method_5_289 : decode method_5_code 289 = .ok (.caload, 1) := by decide +kernel
theorem d_method_5_290 : decode method_5_code 290 = .ok (.castore, 1) := by decide +kernel
theorem d_method_5_291 : decode method_5_code 291 = .ok (.dup, 1) := by decide +kernel
theorem d_method_5_292 : decode method_5_code 292 = .ok (.bipush 6, 2) := by decide +kernel
theorem d_method_5_294 : decode method_5_code 294 = .ok (.aload_n 0, 1) := by decide +kernel
theorem d_method_5_295 : decode method_5_code 295 = .ok (.bipush 6, 2) := by decide +kernel
theorem d_method_5_297 : decode method_5_code 297 = .ok (.caload, 1) := by decide +kernel
theorem d_method_5_298 : decode method_5_code 298 = .ok (.castore, 1) := by decide +kernel
theorem d_method_5_299 : decode method_5_code 299 = .ok (.dup, 1) := by decide +kernel
theorem d_method_5_300 : decode method_5_code 300 = .ok (.bipush 7, 2) := by decide +kernel
theorem d_method_5_302 : decode method_5_code 302 = .ok (.aload_n 0, 1) := by decide +kernel
theorem d_method_5_303 : decode method_5_code 303 = .ok (.bipush 7, 2) := by decide +kernel
theorem d_method_5_305 : decode method_5_code 305 = .ok (.caload, 1) := by decide +kernel
theorem d_method_5_306 : decode method_5_code 306 = .ok (.castore, 1) := by decide +kernel
theorem d_method_5_307 : decode method_5_code 307 = .ok (.areturn, 1) := by decide +kernel
theorem d_method_5_308 : decode method_5_code 308 = .ok (.iload_n 1, 1) := by decide +kernel
theorem d_method_5_309 : decode method_5_code 309 = .ok (.bipush 9, 2) := by decide +kernel
theorem d_method_5_311 : decode method_5_code 311 = .ok (.if_icmp .ne 68, 3) := by decide +kernel
theorem d_method_5_314 : decode method_5_code 314 = .ok (.bipush 9, 2) := by decide +kernel
theorem d_method_5_316 : decode method_5_code 316 = .ok (.newarray .char, 2) := by decide +kernel
theorem d_method_5_318 : decode method_5_code 318 = .ok (.dup, 1) := by decide +kernel
theorem d_method_5_319 : decode method_5_code 319 = .ok (.iconst 0, 1) := by decide +kernel
theorem d_method_5_320 : decode method_5_code 320 = .ok (.aload_n 0, 1) := by decide +kernel
theorem d_method_5_321 : decode method_5_code 321 = .ok (.iconst 0, 1) := by decide +kernel
theorem d_method_5_322 : decode method_5_code 322 = .ok (.caload, 1) := by decide +kernel
theorem d_method_5_323 : decode method_5_code 323 = .ok (.castore, 1) := by decide +kernel
theorem d_method_5_324 : decode method_5_code 324 = .ok (.dup, 1) := by decide +kernel
theorem d_method_5_325 : decode method_5_code 325 = .ok (.iconst 1, 1) := by decide +kernel
theorem d_method_5_326 : decode method_5_code 326 = .ok (.aload_n 0, 1) := by decide +kernel
theorem d_method_5_327 : decode method_5_code 327 = .ok (.iconst 1, 1) := by decide +kernel
theorem d_method_5_328 : decode method_5_code 328 = .ok (.caload, 1) := by decide +kernel
theorem d_method_5_329 : decode method_5_code 329 = .ok (.castore, 1) := by decide +kernel
theorem d_method_5_330 : decode method_5_code 330 = .ok (.dup, 1) := by decide +kernel
theorem d_method_5_331 : decode method_5_code 331 = .ok (.iconst 2, 1) := by decide +kernel
theorem d_method_5_332 : decode method_5_code 332 = .ok (.aload_n 0, 1) := by decide +kernel
theorem d_method_5_333 : decode method_5_code 333 = .ok (.iconst 2, 1) := by decide +kernel
theorem d_method_5_334 : decode method_5_code 334 = .ok (.caload, 1) := by decide +kernel
theorem d_method_5_335 : decode method_5_code 335 = .ok (.castore, 1) := by decide +kernel
theorem d_method_5_336 : decode method_5_code 336 = .ok (.dup, 1) := by decide +kernel
theorem d_method_5_337 : decode method_5_code 337 = .ok (.iconst 3, 1) := by decide +kernel
theorem d_method_5_338 : decode method_5_code 338 = .ok (.aload_n 0, 1) := by decide +kernel
theorem d_method_5_339 : decode method_5_code 339 = .ok (.iconst 3, 1) := by decide +kernel
theorem d_method_5_340 : decode method_5_code 340 = .ok (.caload, 1) := by decide +kernel
theorem d_method_5_341 : decode method_5_code 341 = .ok (.castore, 1) := by decide +kernel
theorem d_method_5_342 : decode method_5_code 342 = .ok (.dup, 1) := by decide +kernel
theorem d_method_5_343 : decode method_5_code 343 = .ok (.iconst 4, 1) := by decide +kernel
theorem d_method_5_344 : decode method_5_code 344 = .ok (.aload_n 0, 1) := by decide +kernel
theorem d_method_5_345 : decode method_5_code 345 = .ok (.iconst 4, 1) := by decide +kernel
theorem d_method_5_346 : decode method_5_code 346 = .ok (.caload, 1) := by decide +kernel
theorem d_method_5_347 : decode method_5_code 347 = .ok (.castore, 1) := by decide +kernel
theorem d_method_5_348 : decode method_5_code 348 = .ok (.dup, 1) := by decide +kernel
theorem d_method_5_349 : decode method_5_code 349 = .ok (.iconst 5, 1) := by decide +kernel
theorem d_method_5_350 : decode method_5_code 350 = .ok (.aload_n 0, 1) := by decide +kernel
theorem d_method_5_351 : decode method_5_code 351 = .ok (.iconst 5, 1) := by decide +kernel
theorem d_method_5_352 : decode method_5_code 352 = .ok (.caload, 1) := by decide +kernel
theorem d_method_5_353 : decode method_5_code 353 = .ok (.castore, 1) := by decide +kernel
theorem d_method_5_354 : decode method_5_code 354 = .ok (.dup, 1) := by decide +kernel
theorem d_method_5_355 : decode method_5_code 355 = .ok (.bipush 6, 2) := by decide +kernel
theorem d_method_5_357 : decode method_5_code 357 = .ok (.aload_n 0, 1) := by decide +kernel
theorem d_method_5_358 : decode method_5_code 358 = .ok (.bipush 6, 2) := by decide +kernel
theorem d_method_5_360 : decode method_5_code 360 = .ok (.caload, 1) := by decide +kernel
theorem d_method_5_361 : decode method_5_code 361 = .ok (.castore, 1) := by decide +kernel
theorem d_method_5_362 : decode method_5_code 362 = .ok (.dup, 1) := by decide +kernel
theorem d_method_5_363 : decode method_5_code 363 = .ok (.bipush 7, 2) := by decide +kernel
theorem d_method_5_365 : decode method_5_code 365 = .ok (.aload_n 0, 1) := by decide +kernel
theorem d_method_5_366 : decode method_5_code 366 = .ok (.bipush 7, 2) := by decide +kernel
theorem d_method_5_368 : decode method_5_code 368 = .ok (.caload, 1) := by decide +kernel
theorem d_method_5_369 : decode method_5_code 369 = .ok (.castore, 1) := by decide +kernel
theorem d_method_5_370 : decode method_5_code 370 = .ok (.dup, 1) := by decide +kernel
theorem d_method_5_371 : decode method_5_code 371 = .ok (.bipush 8, 2) := by decide +kernel
theorem d_method_5_373 : decode method_5_code 373 = .ok (.aload_n 0, 1) := by decide +kernel
theorem d_method_5_374 : decode method_5_code 374 = .ok (.bipush 8, 2) := by decide +kernel
theorem d_method_5_376 : decode method_5_code 376 = .ok (.caload, 1) := by decide +kernel
theorem d_method_5_377 : decode method_5_code 377 = .ok (.castore, 1) := by decide +kernel
theorem d_method_5_378 : decode method_5_code 378 = .ok (.areturn, 1) := by decide +kernel
theorem d_method_5_379 : decode method_5_code 379 = .ok (.iload_n 1, 1) := by decide +kernel
theorem d_method_5_380 : decode method_5_code 380 = .ok (.bipush 10, 2) := by decide +kernel
theorem d_method_5_382 : decode method_5_code 382 = .ok (.if_icmp .ne 76, 3) := by decide +kernel
theorem d_method_5_385 : decode method_5_code 385 = .ok (.bipush 10, 2) := by decide +kernel
theorem d_method_5_387 : decode method_5_code 387 = .ok (.newarray .char, 2) := by decide +kernel
theorem d_method_5_389 : decode method_5_code 389 = .ok (.dup, 1) := by decide +kernel
theorem d_method_5_390 : decode method_5_code 390 = .ok (.iconst 0, 1) := by decide +kernel
theorem d_method_5_391 : decode method_5_code 391 = .ok (.aload_n 0, 1) := by decide +kernel
theorem d_method_5_392 : decode method_5_code 392 = .ok (.iconst 0, 1) := by decide +kernel
theorem d_method_5_393 : decode method_5_code 393 = .ok (.caload, 1) := by decide +kernel
theorem d_method_5_394 : decode method_5_code 394 = .ok (.castore, 1) := by decide +kernel
theorem d_method_5_395 : decode method_5_code 395 = .ok (.dup, 1) := by decide +kernel
theorem d_method_5_396 : decode method_5_code 396 = .ok (.iconst 1, 1) := by decide +kernel
theorem d_method_5_397 : decode method_5_code 397 = .ok (.aload_n 0, 1) := by decide +kernel
theorem d_method_5_398 : decode method_5_code 398 = .ok (.iconst 1, 1) := by decide +kernel
theorem d_method_5_399 : decode method_5_code 399 = .ok (.caload, 1) := by decide +kernel
theorem d_method_5_400 : decode method_5_code 400 = .ok (.castore, 1) := by decide +kernel
theorem d_method_5_401 : decode method_5_code 401 = .ok (.dup, 1) := by decide +kernel
theorem d_method_5_402 : decode method_5_code 402 = .ok (.iconst 2, 1) := by decide +kernel
theorem d_method_5_403 : decode method_5_code 403 = .ok (.aload_n 0, 1) := by decide +kernel
theorem d_method_5_404 : decode method_5_code 404 = .ok (.iconst 2, 1) := by decide +kernel
theorem d_method_5_405 : decode method_5_code 405 = .ok (.caload, 1) := by decide +kernel
theorem d_method_5_406 : decode method_5_code 406 = .ok (.castore, 1) := by decide +kernel
theorem d_method_5_407 : decode method_5_code 407 = .ok (.dup, 1) := by decide +kernel
theorem d_method_5_408 : decode method_5_code 408 = .ok (.iconst 3, 1) := by decide +kernel
theorem d_method_5_409 : decode method_5_code 409 = .ok (.aload_n 0, 1) := by decide +kernel
theorem d_method_5_410 : decode method_5_code 410 = .ok (.iconst 3, 1) := by decide +kernel
theorem d_method_5_411 : decode method_5_code 411 = .ok (.caload, 1) := by decide +kernel
theorem d_method_5_412 : decode method_5_code 412 = .ok (.castore, 1) := by decide +kernel
theorem d_method_5_413 : decode method_5_code 413 = .ok (.dup, 1) := by decide +kernel
theorem d_method_5_414 : decode method_5_code 414 = .ok (.iconst 4, 1) := by decide +kernel
theorem d_method_5_415 : decode method_5_code 415 = .ok (.aload_n 0, 1) := by decide +kernel
theorem d_method_5_416 : decode method_5_code 416 = .ok (.iconst 4, 1) := by decide +kernel
theorem d_method_5_417 : decode method_5_code 417 = .ok (.caload, 1) := by decide +kernel
theorem d_method_5_418 : decode method_5_code 418 = .ok (.castore, 1) := by decide +kernel
theorem d_method_5_419 : decode method_5_code 419 = .ok (.dup, 1) := by decide +kernel
theorem d_method_5_420 : decode method_5_code 420 = .ok (.iconst 5, 1) := by decide +kernel
theorem d_method_5_421 : decode method_5_code 421 = .ok (.aload_n 0, 1) := by decide +kernel
theorem d_method_5_422 : decode method_5_code 422 = .ok (.iconst 5, 1) := by decide +kernel
theorem d_method_5_423 : decode method_5_code 423 = .ok (.caload, 1) := by decide +kernel
theorem d_method_5_424 : decode method_5_code 424 = .ok (.castore, 1) := by decide +kernel
theorem d_method_5_425 : decode method_5_code 425 = .ok (.dup, 1) := by decide +kernel
theorem d_method_5_426 : decode method_5_code 426 = .ok (.bipush 6, 2) := by decide +kernel
theorem d_method_5_428 : decode method_5_code 428 = .ok (.aload_n 0, 1) := by decide +kernel
theorem d_method_5_429 : decode method_5_code 429 = .ok (.bipush 6, 2) := by decide +kernel
theorem d_method_5_431 : decode method_5_code 431 = .ok (.caload, 1) := by decide +kernel
theorem d_method_5_432 : decode method_5_code 432 = .ok (.castore, 1) := by decide +kernel
theorem d_method_5_433 : decode method_5_code 433 = .ok (.dup, 1) := by decide +kernel
theorem d_method_5_434 : decode method_5_code 434 = .ok (.bipush 7, 2) := by decide +kernel
theorem d_method_5_436 : decode method_5_code 436 = .ok (.aload_n 0, 1) := by decide +kernel
theorem d_method_5_437 : decode method_5_code 437 = .ok (.bipush 7, 2) := by decide +kernel
theorem d_method_5_439 : decode method_5_code 439 = .ok (.caload, 1) := by decide +kernel
theorem d_method_5_440 : decode method_5_code 440 = .ok (.castore, 1) := by decide +kernel
theorem d_method_5_441 : decode method_5_code 441 = .ok (.dup, 1) := by decide +kernel
theorem d_method_5_442 : decode method_5_code 442 = .ok (.bipush 8, 2) := by decide +kernel
theorem d_method_5_444 : decode method_5_code 444 = .ok (.aload_n 0, 1) := by decide +kernel
theorem d_method_5_445 : decode method_5_code 445 = .ok (.bipush 8, 2) := by decide +kernel
theorem d_method_5_447 : decode method_5_code 447 = .ok (.caload, 1) := by decide +kernel
theorem d_method_5_448 : decode method_5_code 448 = .ok (.castore, 1) := by decide +kernel
theorem d_method_5_449 : decode method_5_code 449 = .ok (.dup, 1) := by decide +kernel
theorem d_method_5_450 : decode method_5_code 450 = .ok (.bipush 9, 2) := by decide +kernel
theorem d_method_5_452 : decode method_5_code 452 = .ok (.aload_n 0, 1) := by decide +kernel
theorem d_method_5_453 : decode method_5_code 453 = .ok (.bipush 9, 2) := by decide +kernel
theorem d_method_5_455 : decode method_5_code 455 = .ok (.caload, 1) := by decide +kernel
theorem d_method_5_456 : decode method_5_code 456 = .ok (.castore, 1) := by decide +kernel
theorem d_method_5_457 : decode method_5_code 457 = .ok (.areturn, 1) := by decide +kernel
theorem d_method_5_458 : decode method_5_code 458 = .ok (.bipush 11, 2) := by decide +kernel
theorem d_method_5_460 : decode method_5_code 460 = .ok (.newarray .char, 2) := by decide +kernel
theorem d_method_5_462 : decode method_5_code 462 = .ok (.dup, 1) := by decide +kernel
theorem d_method_5_463 : decode method_5_code 463 = .ok (.iconst 0, 1) := by decide +kernel
theorem d_method_5_464 : decode method_5_code 464 = .ok (.aload_n 0, 1) := by decide +kernel
theorem d_method_5_465 : decode method_5_code 465 = .ok (.iconst 0, 1) := by decide +kernel
theorem d_method_5_466 : decode method_5_code 466 = .ok (.caload, 1) := by decide +kernel
theorem d_method_5_467 : decode method_5_code 467 = .ok (.castore, 1) := by decide +kernel
theorem d_method_5_468 : decode method_5_code 468 = .ok (.dup, 1) := by decide +kernel
theorem d_method_5_469 : decode method_5_code 469 = .ok (.iconst 1, 1) := by decide +kernel
theorem d_method_5_470 : decode method_5_code 470 = .ok (.aload_n 0, 1) := by decide +kernel
theorem d_method_5_471 : decode method_5_code 471 = .ok (.iconst 1, 1) := by decide +kernel
theorem d_method_5_472 : decode method_5_code 472 = .ok (.caload, 1) := by decide +kernel
theorem d_method_5_473 : decode method_5_code 473 = .ok (.castore, 1) := by decide +kernel
theorem d_method_5_474 : decode method_5_code 474 = .ok (.dup, 1) := by decide +kernel
theorem d_method_5_475 : decode method_5_code 475 = .ok (.iconst 2, 1) := by decide +kernel
theorem d_method_5_476 : decode method_5_code 476 = .ok (.aload_n 0, 1) := by decide +kernel
theorem d_method_5_477 : decode method_5_code 477 = .ok (.iconst 2, 1) := by decide +kernel
theorem d_method_5_478 : decode method_5_code 478 = .ok (.caload, 1) := by decide +kernel
theorem d_method_5_479 : decode method_5_code 479 = .ok (.castore, 1) := by decide +kernel
theorem d_method_5_480 : decode method_5_code 480 = .ok (.dup, 1) := by decide +kernel
theorem d_method_5_481 : decode method_5_code 481 = .ok (.iconst 3, 1) := by decide +kernel
theorem d_method_5_482 : decode method_5_code 482 = .ok (.aload_n 0, 1) := by decide +kernel
theorem d_method_5_483 : decode method_5_code 483 = .ok (.iconst 3, 1) := by decide +kernel
theorem d_method_5_484 : decode method_5_code 484 = .ok (.caload, 1) := by decide +kernel
theorem d_method_5_485 : decode method_5_code 485 = .ok (.castore, 1) := by decide +kernel
theorem d_method_5_486 : decode method_5_code 486 = .ok (.dup, 1) := by decide +kernel
theorem d_method_5_487 : decode method_5_code 487 = .ok (.iconst 4, 1) := by decide +kernel
theorem d_method_5_488 : decode method_5_code 488 = .ok (.aload_n 0, 1) := by decide +kernel
theorem d_method_5_489 : decode method_5_code 489 = .ok (.iconst 4, 1) := by decide +kernel
theorem d_method_5_490 : decode method_5_code 490 = .ok (.caload, 1) := by decide +kernel
theorem d_method_5_491 : decode method_5_code 491 = .ok (.castore, 1) := by decide +kernel
theorem d_method_5_492 : decode method_5_code 492 = .ok (.dup, 1) := by decide +kernel
theorem d_method_5_493 : decode method_5_code 493 = .ok (.iconst 5, 1) := by decide +kernel
theorem d_method_5_494 : decode method_5_code 494 = .ok (.aload_n 0, 1) := by decide +kernel
theorem d_method_5_495 : decode method_5_code 495 = .ok (.iconst 5, 1) := by decide +kernel
theorem d_method_5_496 : decode method_5_code 496 = .ok (.caload, 1) := by decide +kernel
theorem d_method_5_497 : decode method_5_code 497 = .ok (.castore, 1) := by decide +kernel
theorem d_method_5_498 : decode method_5_code 498 = .ok (.dup, 1) := by decide +kernel
theorem d_method_5_499 : decode method_5_code 499 = .ok (.bipush 6, 2) := by decide +kernel
theorem d_method_5_501 : decode method_5_code 501 = .ok (.aload_n 0, 1) := by decide +kernel
theorem d_method_5_502 : decode method_5_code 502 = .ok (.bipush 6, 2) := by decide +kernel
theorem d_method_5_504 : decode method_5_code 504 = .ok (.caload, 1) := by decide +kernel
theorem d_method_5_505 : decode method_5_code 505 = .ok (.castore, 1) := by decide +kernel
theorem d_method_5_506 : decode method_5_code 506 = .ok (.dup, 1) := by decide +kernel
theorem d_method_5_507 : decode method_5_code 507 = .ok (.bipush 7, 2) := by decide +kernel
theorem d_method_5_509 : decode method_5_code 509 = .ok (.aload_n 0, 1) := by decide +kernel
theorem d_method_5_510 : decode method_5_code 510 = .ok (.bipush 7, 2) := by decide +kernel
theorem d_method_5_512 : decode method_5_code 512 = .ok (.caload, 1) := by decide +kernel
theorem d_method_5_513 : decode method_5_code 513 = .ok (.castore, 1) := by decide +kernel
theorem d_method_5_514 : decode method_5_code 514 = .ok (.dup, 1) := by decide +kernel
theorem d_method_5_515 : decode method_5_code 515 = .ok (.bipush 8, 2) := by decide +kernel
theorem d_method_5_517 : decode method_5_code 517 = .ok (.aload_n 0, 1) := by decide +kernel
theorem d_method_5_518 : decode method_5_code 518 = .ok (.bipush 8, 2) := by decide +kernel
theorem d_method_5_520 : decode method_5_code 520 = .ok (.caload, 1) := by decide +kernel
theorem d_method_5_521 : decode method_5_code 521 = .ok (.castore, 1) := by decide +kernel
theorem d_method_5_522 : decode method_5_code 522 = .ok (.dup, 1) := by decide +kernel
theorem d_method_5_523 : decode method_5_code 523 = .ok (.bipush 9, 2) := by decide +kernel
theorem d_method_5_525 : decode method_5_code 525 = .ok (.aload_n 0, 1) := by decide +kernel
theorem d_method_5_526 : decode method_5_code 526 = .ok (.bipush 9, 2) := by decide +kernel
theorem d_method_5_528 : decode method_5_code 528 = .ok (.caload, 1) := by decide +kernel
theorem d_method_5_529 : decode method_5_code 529 = .ok (.castore, 1) := by decide +kernel
theorem d_method_5_530 : decode method_5_code 530 = .ok (.dup, 1) := by decide +kernel
theorem d_method_5_531 : decode method_5_code 531 = .ok (.bipush 10, 2) := by decide +kernel
theorem d_method_5_533 : decode method_5_code 533 = .ok (.aload_n 0, 1) := by decide +kernel
theorem d_method_5_534 : decode method_5_code 534 = .ok (.bipush 10, 2) := by decide +kernel
theorem d_method_5_536 : decode method_5_code 536 = .ok (.caload, 1) := by decide +kernel
theorem d_method_5_537 : decode method_5_code 537 = .ok (.castore, 1) := by decide +kernel
theorem d_method_5_538 : decode method_5_code 538 = .ok (.areturn, 1) := by decide +kernel
theorem pd_0 : parseMethodDescriptor "([CIILjava/lang/Void;)V" = some ⟨[(.array .char), .int, .int, (.object "java/lang/Void")], none⟩ := by decide +kernel
theorem pd_1 : parseMethodDescriptor "(Ljava/lang/Object;)Ljava/lang/Object;" = some ⟨[(.object "java/lang/Object")], some (.object "java/lang/Object")⟩ := by decide +kernel
theorem pd_2 : parseMethodDescriptor "(Ljava/lang/Object;)V" = some ⟨[(.object "java/lang/Object")], none⟩ := by decide +kernel
theorem pd_3 : parseMethodDescriptor "()Ljava/util/Optional;" = some ⟨[], some (.object "java/util/Optional")⟩ := by decide +kernel
theorem pd_4 : parseMethodDescriptor "()[Lcom/example/contesta/contesta/fusion/Method;" = some ⟨[], some (.array (.object "com/example/contesta/contesta/fusion/Method"))⟩ := by decide +kernel
theorem pd_5 : parseMethodDescriptor "(Ljava/lang/Object;)Z" = some ⟨[(.object "java/lang/Object")], some .boolean⟩ := by decide +kernel
theorem pd_6 : parseMethodDescriptor "(Ljava/lang/Object;)Ljava/util/Optional;" = some ⟨[(.object "java/lang/Object")], some (.object "java/util/Optional")⟩ := by decide +kernel
theorem pd_7 : parseMethodDescriptor "()I" = some ⟨[], some .int⟩ := by decide +kernel
theorem pd_8 : parseMethodDescriptor "(I)C" = some ⟨[.int], some .char⟩ := by decide +kernel
theorem pd_9 : parseMethodDescriptor "(Ljava/lang/String;)Ljava/util/Optional;" = some ⟨[(.object "java/lang/String")], some (.object "java/util/Optional")⟩ := by decide +kernel
theorem pd_10 : parseMethodDescriptor "([CI)[C" = some ⟨[(.array .char), .int], some (.array .char)⟩ := by decide +kernel
theorem pd_11 : parseMethodDescriptor "([C)V" = some ⟨[(.array .char)], none⟩ := by decide +kernel
theorem pd_12 : parseMethodDescriptor "(I)Ljava/lang/String;" = some ⟨[.int], some (.object "java/lang/String")⟩ := by decide +kernel
theorem pd_13 : parseMethodDescriptor "(Ljava/lang/String;III)C" = some ⟨[(.object "java/lang/String"), .int, .int, .int], some .char⟩ := by decide +kernel
set_option maxRecDepth 65536 in
set_option maxHeartbeats 40000000 in
theorem rm_str4e (l : Launch) (Z : State) (a0 : Array Value) (hw : ∀ d ∈ tables_1, d.before a0 Z = true) (hEL : EW Z a0 consts_1) (n0 : Nat) (x b : Addr) (h : Heap) (Ex : Exa Z h x "java/lang/String") (Fv : Fld Z h x "java/lang/String" "value" "[B" .null) (Fc : Fld Z h x "java/lang/String" "coder" "B" (.int (0 : Int32)))  :
    Met l false Z consts_1 n0 (⟨"java/lang/String", "<init>", "([CIILjava/lang/Void;)V"⟩ : MethodName) jdk_42_method_149_code 6 none ({ frames := 1, cells := 4, slots := 8, locals := 12 } : Room) [] #[(.ref x), (.ref b), (.int (0 : Int32)), (.int (0 : Int32)), .null] [x] h (fun v h' => v = none ∧ Keep h h' [x] ∧ Str Z h' x []) := by
  refine Met.of_body (a0 := a0) (L0 := #[.val (.ref x), .val (.ref b), .val (.int (0 : Int32)), .val (.int (0 : Int32)), .val .null, .unset]) (plainFor_of_name (by first | (simp [plainName, overriddenIn]; done) | decide +kernel)) (fun m => by first | rfl | (simp [entryFrame, mkF, argsToLocals, Value.category]; done)) hw hEL (by decide) ?_
  have K : Keep h h [x] := Keep.refl _ _
  refine aloadN (pc' := 1) d_jdk_42_method_149_0 rfl rfl rfl ?_
  refine initObj (i := 63) (i2 := 64) (i3 := 65) (Wd := 0) (pc' := 4) d_jdk_42_method_149_1 rfl rfl rfl rfl (by decide) (Nat.le_of_ble_eq_true rfl) (by decide) rfl ?_
  refine iloadN (pc' := 5) d_jdk_42_method_149_4 rfl rfl ?_
  refine ifF (pc' := 8) d_jdk_42_method_149_5 (rfl : (0 : Int32) = (0 : Int32)) rfl ?_
  refine aloadN (pc' := 9) d_jdk_42_method_149_8 rfl rfl rfl ?_
  refine ldcStr (i := 146) (n := 0) (vs := []) (z := (0 : Int32)) (pc' := 11) d_jdk_42_method_149_9 rfl (by decide +kernel) (by decide) rfl ⟨by simp, by simp⟩ (by decide) rfl (by simp) (by decide) (by decide) (by decide) rfl fun h1 sa1 sb1 sk1 SE1 SA1 SC1 SV1 SR1 SN1 => ?_
  replace K := K.ext SE1
  replace Ex := Ex.ext SE1
  replace Fv := Fv.ext SE1
  replace Fc := Fc.ext SE1
  refine at' (ce' := 2) (sl' := 4) (pc' := 11) (L' := #[.val (.ref x), .val (.ref b), .val (.int (0 : Int32)), .val (.int (0 : Int32)), .val .null, .unset]) (S' := [(.ref sa1), (.ref x)]) rfl rfl rfl rfl rfl ?_
  refine getfield (i := 17) (pc' := 14) d_jdk_42_method_149_11 rfl SV1 rfl ?_
  refine putfield (i := 17) (i2 := 8) (i3 := 6) (pc' := 17) (v' := (.ref sb1)) (ty := (.array .byte)) d_jdk_42_method_149_14 rfl (Or.inr ⟨rfl, rfl, rfl⟩) rfl Fv Ex (by decide) rfl rfl (by simp) rfl fun h1 W2 => ?_
  replace K := K.wr W2 (Or.inl (by simp))
  replace Ex := Ex.wr W2
  replace Fv := Fv.same W2
  replace Fc := Fc.other W2 (Or.inr (slot_ne (Or.inr (hw _ (List.mem_of_getElem? (i := 9) rfl))) (Or.inr (hw _ (List.mem_of_getElem? (i := 8) rfl))) (by decide) (t := .byte) (t' := (.array .byte)) (by decide) (by decide)))
  replace SA1 := SA1.wr W2
  replace SC1 := SC1.other W2 (Or.inl (Ne.symm (SN1 x (by simp)).1))
  replace SV1 := SV1.other W2 (Or.inl (Ne.symm (SN1 x (by simp)).1))
  replace SR1 := SR1.other W2 (Ne.symm (SN1 x (by simp)).2)
  refine aloadN (pc' := 18) d_jdk_42_method_149_17 rfl rfl rfl ?_
  refine ldcStr (i := 146) (n := 0) (vs := []) (z := (0 : Int32)) (pc' := 20) d_jdk_42_method_149_18 rfl (by decide +kernel) (by decide) rfl ⟨by simp, by simp⟩ (by decide) rfl (by simp) (by decide) (by decide) (by decide) rfl fun h2 sa2 sb2 sk2 SE2 SA2 SC2 SV2 SR2 SN2 => ?_
  replace K := K.ext SE2
  replace Ex := Ex.ext SE2
  replace Fv := Fv.ext SE2
  replace Fc := Fc.ext SE2
  replace SR1 := SR1.ext SE2
  refine at' (ce' := 4) (sl' := 8) (pc' := 20) (L' := #[.val (.ref x), .val (.ref b), .val (.int (0 : Int32)), .val (.int (0 : Int32)), .val .null, .unset]) (S' := [(.ref sa2), (.ref x)]) rfl rfl rfl rfl rfl ?_
  refine getfield (i := 24) (pc' := 23) d_jdk_42_method_149_20 rfl SC2 rfl ?_
  refine putfield (i := 24) (i2 := 9) (i3 := 6) (pc' := 26) (v' := (.int (0 : Int32))) (ty := .byte) d_jdk_42_method_149_23 rfl (Or.inr ⟨rfl, rfl, rfl⟩) rfl Fc Ex (by decide) (by decide) (by decide) (by simp) rfl fun h3 W4 => ?_
  replace K := K.wr W4 (Or.inl (by simp))
  replace Ex := Ex.wr W4
  replace Fv := Fv.other W4 (Or.inr (slot_ne (Or.inr (hw _ (List.mem_of_getElem? (i := 8) rfl))) (Or.inr (hw _ (List.mem_of_getElem? (i := 9) rfl))) (by decide) (t := (.array .byte)) (t' := .byte) (by decide) (by decide)))
  replace Fc := Fc.same W4
  replace SR1 := SR1.other W4 (Ne.symm (SN1 x (by simp)).2)
  replace SA2 := SA2.wr W4
  replace SC2 := SC2.other W4 (Or.inl (Ne.symm (SN2 x (by simp)).1))
  replace SV2 := SV2.other W4 (Or.inl (Ne.symm (SN2 x (by simp)).1))
  replace SR2 := SR2.other W4 (Ne.symm (SN2 x (by simp)).2)
  exact retV d_jdk_42_method_149_26 rfl (by decide) (by decide) ⟨rfl, K, Ex, Fc, ⟨sb1, _, Fv, SR1⟩, by simp, by decide⟩
set_option maxRecDepth 65536 in
set_option maxHeartbeats 40000000 in
theorem rm_stre (l : Launch) (Z : State) (a0 : Array Value) (hw : ∀ d ∈ tables_1, d.before a0 Z = true) (hEL : EW Z a0 consts_1) (n0 : Nat) (x b : Addr) (kc : ClassId) (dv : Value) (h : Heap) (Ex : Exa Z h x "java/lang/String") (Fv : Fld Z h x "java/lang/String" "value" "[B" .null) (Fc : Fld Z h x "java/lang/String" "coder" "B" (.int (0 : Int32))) (Ab : Arv Z h b kc .char (0 : Int32) [] dv)  :
    Met l false Z consts_1 n0 (⟨"java/lang/String", "<init>", "([C)V"⟩ : MethodName) jdk_42_method_3_code 2 none ({ frames := 2, cells := 4, slots := 8, locals := 29 } : Room) [] #[(.ref x), (.ref b)] [x] h (fun v h' => v = none ∧ Keep h h' [x] ∧ Str Z h' x []) := by
  refine Met.of_body (a0 := a0) (L0 := #[.val (.ref x), .val (.ref b)]) (plainFor_of_name (by first | (simp [plainName, overriddenIn]; done) | decide +kernel)) (fun m => by first | rfl | (simp [entryFrame, mkF, argsToLocals, Value.category]; done)) hw hEL (by decide) ?_
  refine aloadN (pc' := 1) d_jdk_42_method_3_0 rfl rfl rfl ?_
  refine aloadN (pc' := 2) d_jdk_42_method_3_1 rfl rfl rfl ?_
  refine iconst (pc' := 3) (v := (0 : Int32)) d_jdk_42_method_3_2 rfl rfl ?_
  refine aloadN (pc' := 4) d_jdk_42_method_3_3 rfl rfl rfl ?_
  refine arraylength (pc' := 5) d_jdk_42_method_3_4 Ab rfl ?_
  refine aconst_null (pc' := 6) d_jdk_42_method_3_5 rfl ?_
  refine call (i := 62) (i2 := 5) (Wd := 0) (pc' := 9) (kInit (i := 59) (i2 := 60) (i4 := 62) (a := x) (argsL := [(.ref b), (.int (0 : Int32)), (.int (0 : Int32)), .null]) (S' := []) (Wd := 0) d_jdk_42_method_3_6 rfl rfl rfl rfl (by decide) rfl pd_0 rfl rfl (Nat.le_of_ble_eq_true rfl)) (rm_str4e l Z a0 hw hEL n0 x b _ Ex Fv Fc) rfl rfl (by simp) (by decide) (by decide) (by decide) (by decide) rfl fun v_ h5 P6 sz7 => ?_
  obtain ⟨rfl, K, Sx⟩ := P6
  refine at' (ce' := 4) (sl' := 8) (pc' := 9) (L' := #[.val (.ref x), .val (.ref b)]) (S' := []) rfl rfl rfl rfl rfl ?_
  exact retV d_jdk_42_method_3_9 rfl (by decide) (by decide) ⟨rfl, K, Sx⟩
theorem strNewW {l : Launch} {Z : State} {a0 : Array Value} {n0 : Nat} {y : MethodName} {B : ByteArray} {ml : Nat} {ret : Option FieldType} {R : Room} {h0 : Heap} {Post : Option Value → Heap → Prop} {fs : List Addr} {h : Heap} {ce sl pc pc' : Nat} {L : Array Slot} {S S' : List Value} {i Wd n : Nat} {x b : Addr} {kC : ClassId} {cs : List Int32} {d : Value} {N : Int32} (hB : Sets Z) (hws : ∀ d ∈ StrChars.Road.words, d ∈ tables_1) (wi : tables_1[i]? = some (.instantiable ST 4)) (kd : Kd l Z a0 y B ml R h ce sl pc L S (⟨"java/lang/String", "<init>", "([C)V"⟩ : MethodName) 3 Wd #[.ref x, .ref b] S')
    (E : Exa Z h x ST) (Vf : Fld Z h x ST "value" "[B" .null) (Cf : Fld Z h x ST "coder" "B" (.int (0 : Int32))) (A : Arv Z h b kC .char N (cs.map Value.int) d) (hn : cs.length = n) (hN : N = Int32.ofNat n) (l2 : n ≤ 4000) (hp : ∀ c ∈ cs, ¬ c < 0 ∧ ¬ (255 : Int32) < c) (hx : x ∈ fs)
    (hfr : 4 ≤ R.frames) (hlo : Wd + 65 ≤ R.locals) (hc : ce + 4 ≤ R.cells) (hs : sl + (n + 8) ≤ R.slots) (hpc : pc + 3 = pc') (K : ∀ h', Keep h h' [x] → Str Z h' x cs → Wq l false Z consts_1 a0 n0 y B ml ret R h0 Post fs h' (ce + 4) (sl + (n + 8)) pc' L S') : Wq l false Z consts_1 a0 n0 y B ml ret R h0 Post fs h ce sl pc L S := by
  rcases Nat.eq_zero_or_pos n with q | q
  · subst q
    obtain rfl := List.eq_nil_of_length_eq_zero hn
    subst hN
    refine ews fun hw hEL => call (i := 58) (i2 := 5) kd (rm_stre l Z a0 hw hEL n0 x b kC d h E Vf Cf A) rfl rfl (fun z r => by cases List.mem_singleton.mp r; exact hx) (by show 2 + 1 ≤ _; omega) (by show Wd + (2 + 11) + 29 ≤ _; omega) hc hs hpc fun v h' hP _ => ?_
    obtain ⟨rfl, k1, s1⟩ := hP
    exact K h' k1 s1
  · exact strNew hB hws wi kd E Vf Cf A hn hN q l2 hp hx hfr hlo (by omega) (by omega) hpc fun h' k1 s1 => more (by omega) (by omega) (K h' k1 s1)
def ok (x : Int32) : Prop := ¬ x < 0 ∧ ¬ (255 : Int32) < x
theorem ok_of {x : Int32} (h0 : 0 ≤ x.toInt) (h1 : x.toInt ≤ 255) : ok x := by
  unfold ok
  rw [Int32.lt_iff_toInt_lt, Int32.lt_iff_toInt_lt]
  have e1 : (255 : Int32).toInt = 255 := rfl
  have e0 : (0 : Int32).toInt = 0 := rfl
  omega
theorem ok_to {x : Int32} (h : ok x) : 0 ≤ x.toInt ∧ x.toInt ≤ 255 := by
  have hi := h.2
  have h0 := h.1
  rw [Int32.lt_iff_toInt_lt] at h0 hi
  have e1 : (255 : Int32).toInt = 255 := rfl
  have e0 : (0 : Int32).toInt = 0 := rfl
  omega
theorem own_ok (x : Int32) : ok (x &&& 255) := by
  have h := c_and x 255 (by decide)
  exact ok_of h.1 h.2
theorem own_nar {x : Int32} (h : ok x) : nar .char x = x := by
  have q := c_i2c x
  have r := ok_to h
  exact Int32.toInt_inj.mp (by show x.toUInt32.toUInt16.toUInt32.toInt32.toInt = x.toInt; omega)
theorem own_lt : ∀ f, f < 12 → ∀ e, e < 12 → (Int32.ofNat f < Int32.ofNat e ↔ f < e) := by decide
theorem own_i2c {x : Int32} (h : ok x) : x.toUInt32.toUInt16.toUInt32.toInt32 = x := own_nar h
theorem getD_lt {α : Type} (d : α) {l : List α} {i : Nat} (h : i < l.length) : l.getD i d = l[i] := by
  rw [List.getD_eq_getElem?_getD, List.getElem?_eq_getElem h]; rfl
theorem ok_get {cs : List Int32} {j : Nat} (hp : ∀ c ∈ cs, ¬ c < 0 ∧ ¬ (255 : Int32) < c) (h : j < cs.length) : ok (cs.getD j 0) := by
  rw [getD_lt 0 h]; exact hp _ (List.getElem_mem h)
def t12 (n : Int32) : Prop := n = 0 ∨ n = 1 ∨ n = 2 ∨ n = 3 ∨ n = 4 ∨ n = 5 ∨ n = 6 ∨ n = 7 ∨ n = 8 ∨ n = 9 ∨ n = 10 ∨ n = 11
theorem own_12 {x : Int32} (h : 0 ≤ x.toInt) : t12 (x % 12) := by
  have q := (c_irem x 12 12 rfl).1 h
  have hr : 0 ≤ (x % 12).toInt ∧ (x % 12).toInt < 12 := by omega
  have hc : (x % 12).toInt = 0 ∨ (x % 12).toInt = 1 ∨ (x % 12).toInt = 2 ∨ (x % 12).toInt = 3 ∨ (x % 12).toInt = 4 ∨ (x % 12).toInt = 5 ∨ (x % 12).toInt = 6 ∨ (x % 12).toInt = 7 ∨ (x % 12).toInt = 8 ∨ (x % 12).toInt = 9 ∨ (x % 12).toInt = 10 ∨ (x % 12).toInt = 11 := by omega
  unfold t12
  rcases hc with e | e | e | e | e | e | e | e | e | e | e | e
  · exact Or.inl (Int32.toInt_inj.mp e)
  · exact Or.inr (Or.inl (Int32.toInt_inj.mp e))
  · exact Or.inr (Or.inr (Or.inl (Int32.toInt_inj.mp e)))
  · exact Or.inr (Or.inr (Or.inr (Or.inl (Int32.toInt_inj.mp e))))
  · exact Or.inr (Or.inr (Or.inr (Or.inr (Or.inl (Int32.toInt_inj.mp e)))))
  · exact Or.inr (Or.inr (Or.inr (Or.inr (Or.inr (Or.inl (Int32.toInt_inj.mp e))))))
  · exact Or.inr (Or.inr (Or.inr (Or.inr (Or.inr (Or.inr (Or.inl (Int32.toInt_inj.mp e)))))))
  · exact Or.inr (Or.inr (Or.inr (Or.inr (Or.inr (Or.inr (Or.inr (Or.inl (Int32.toInt_inj.mp e))))))))
  · exact Or.inr (Or.inr (Or.inr (Or.inr (Or.inr (Or.inr (Or.inr (Or.inr (Or.inl (Int32.toInt_inj.mp e)))))))))
  · exact Or.inr (Or.inr (Or.inr (Or.inr (Or.inr (Or.inr (Or.inr (Or.inr (Or.inr (Or.inl (Int32.toInt_inj.mp e))))))))))
  · exact Or.inr (Or.inr (Or.inr (Or.inr (Or.inr (Or.inr (Or.inr (Or.inr (Or.inr (Or.inr (Or.inl (Int32.toInt_inj.mp e)))))))))))
  · exact Or.inr (Or.inr (Or.inr (Or.inr (Or.inr (Or.inr (Or.inr (Or.inr (Or.inr (Or.inr (Or.inr ((Int32.toInt_inj.mp e))))))))))))
def t11 (n : Int32) : Prop := n = 0 ∨ n = 1 ∨ n = 2 ∨ n = 3 ∨ n = 4 ∨ n = 5 ∨ n = 6 ∨ n = 7 ∨ n = 8 ∨ n = 9 ∨ n = 10
theorem own_11 {x : Int32} (h : 0 ≤ x.toInt) : t11 (x % 11) := by
  have q := (c_irem x 11 11 rfl).1 h
  have hr : 0 ≤ (x % 11).toInt ∧ (x % 11).toInt < 11 := by omega
  have hc : (x % 11).toInt = 0 ∨ (x % 11).toInt = 1 ∨ (x % 11).toInt = 2 ∨ (x % 11).toInt = 3 ∨ (x % 11).toInt = 4 ∨ (x % 11).toInt = 5 ∨ (x % 11).toInt = 6 ∨ (x % 11).toInt = 7 ∨ (x % 11).toInt = 8 ∨ (x % 11).toInt = 9 ∨ (x % 11).toInt = 10 := by omega
  unfold t11
  rcases hc with e | e | e | e | e | e | e | e | e | e | e
  · exact Or.inl (Int32.toInt_inj.mp e)
  · exact Or.inr (Or.inl (Int32.toInt_inj.mp e))
  · exact Or.inr (Or.inr (Or.inl (Int32.toInt_inj.mp e)))
  · exact Or.inr (Or.inr (Or.inr (Or.inl (Int32.toInt_inj.mp e))))
  · exact Or.inr (Or.inr (Or.inr (Or.inr (Or.inl (Int32.toInt_inj.mp e)))))
  · exact Or.inr (Or.inr (Or.inr (Or.inr (Or.inr (Or.inl (Int32.toInt_inj.mp e))))))
  · exact Or.inr (Or.inr (Or.inr (Or.inr (Or.inr (Or.inr (Or.inl (Int32.toInt_inj.mp e)))))))
  · exact Or.inr (Or.inr (Or.inr (Or.inr (Or.inr (Or.inr (Or.inr (Or.inl (Int32.toInt_inj.mp e))))))))
  · exact Or.inr (Or.inr (Or.inr (Or.inr (Or.inr (Or.inr (Or.inr (Or.inr (Or.inl (Int32.toInt_inj.mp e)))))))))
  · exact Or.inr (Or.inr (Or.inr (Or.inr (Or.inr (Or.inr (Or.inr (Or.inr (Or.inr (Or.inl (Int32.toInt_inj.mp e))))))))))
  · exact Or.inr (Or.inr (Or.inr (Or.inr (Or.inr (Or.inr (Or.inr (Or.inr (Or.inr (Or.inr ((Int32.toInt_inj.mp e)))))))))))
theorem own_o12 : ∀ k, k < 12 → t12 (Int32.ofNat k) := by unfold t12; decide
/-- the constants of the enum, as the case says them -/
def En (Z : State) (va : Addr) (kv : ClassId) (c0 c1 c2 c3 m0 m1 m2 m3 : Addr) : Prop := Sta Z Z.heap "com/example/contesta/contesta/fusion/Method" "$VALUES" "[Lcom/example/contesta/contesta/fusion/Method;" (.ref va) ∧ Arv Z Z.heap va kv (.object "com/example/contesta/contesta/fusion/Method") 4 [.ref c0, .ref c1, .ref c2, .ref c3] .null ∧ Exa Z Z.heap va "[Lcom/example/contesta/contesta/fusion/Method;" ∧ (Sta Z Z.heap "com/example/contesta/contesta/fusion/Method" "ROUND_ROBIN" "Lcom/example/contesta/contesta/fusion/Method;" (.ref c0) ∧ Exa Z Z.heap c0 "com/example/contesta/contesta/fusion/Method" ∧ Fld Z Z.heap c0 "com/example/contesta/contesta/fusion/Method" "label" "Ljava/lang/String;" (.ref m0) ∧ Str Z Z.heap m0 ([114, 111, 117, 110, 100, 114, 111, 98, 105, 110] : List Int32)) ∧ (Sta Z Z.heap "com/example/contesta/contesta/fusion/Method" "RSV" "Lcom/example/contesta/contesta/fusion/Method;" (.ref c1) ∧ Exa Z Z.heap c1 "com/example/contesta/contesta/fusion/Method" ∧ Fld Z Z.heap c1 "com/example/contesta/contesta/fusion/Method" "label" "Ljava/lang/String;" (.ref m1) ∧ Str Z Z.heap m1 ([114, 115, 118] : List Int32)) ∧ (Sta Z Z.heap "com/example/contesta/contesta/fusion/Method" "COMB_SUM" "Lcom/example/contesta/contesta/fusion/Method;" (.ref c2) ∧ Exa Z Z.heap c2 "com/example/contesta/contesta/fusion/Method" ∧ Fld Z Z.heap c2 "com/example/contesta/contesta/fusion/Method" "label" "Ljava/lang/String;" (.ref m2) ∧ Str Z Z.heap m2 ([99, 111, 109, 98, 115, 117, 109] : List Int32)) ∧ (Sta Z Z.heap "com/example/contesta/contesta/fusion/Method" "COMB_MNZ" "Lcom/example/contesta/contesta/fusion/Method;" (.ref c3) ∧ Exa Z Z.heap c3 "com/example/contesta/contesta/fusion/Method" ∧ Fld Z Z.heap c3 "com/example/contesta/contesta/fusion/Method" "label" "Ljava/lang/String;" (.ref m3) ∧ Str Z Z.heap m3 ([99, 111, 109, 98, 109, 110, 122] : List Int32))
def Oe (Z : State) (oe : Addr) : Prop := Sta Z Z.heap "java/util/Optional" "EMPTY" "Ljava/util/Optional;" (.ref oe) ∧ Exa Z Z.heap oe "java/util/Optional" ∧ Fld Z Z.heap oe "java/util/Optional" "value" "Ljava/lang/Object;" .null
set_option maxRecDepth 65536 in
set_option maxHeartbeats 40000000 in
theorem rm_values (l : Launch) (Z : State) (a0 : Array Value) (hw : ∀ d ∈ tables_1, d.before a0 Z = true) (hEL : EW Z a0 consts_1) (n0 : Nat) (va : Addr) (kv : ClassId) (c0 c1 c2 c3 m0 m1 m2 m3 oe : Addr) (h : Heap)  (hE : En Z va kv c0 c1 c2 c3 m0 m1 m2 m3) (hO : Oe Z oe) (hB : Sets Z) :
    Met l false Z consts_1 n0 (⟨"com/example/contesta/contesta/fusion/Method", "values", "()[Lcom/example/contesta/contesta/fusion/Method;"⟩ : MethodName) prog_16_method_1_code 0 (some (.array (.object "com/example/contesta/contesta/fusion/Method"))) ({ frames := 1, cells := 1, slots := 4, locals := 14 } : Room) [] #[] [] h (fun v h' => ∃ r kc, v = some (.ref r) ∧ Ext h h' ∧ Arv Z h' r kc (.object "com/example/contesta/contesta/fusion/Method") 4 [.ref c0, .ref c1, .ref c2, .ref c3] .null) := by
  refine Met.of_body (a0 := a0) (L0 := #[]) (plainFor_of_name (by first | (simp [plainName, overriddenIn]; done) | decide +kernel)) (fun m => by first | rfl | (simp [entryFrame, mkF, argsToLocals, Value.category]; done)) hw hEL (by decide) ?_
  refine old fun O8 _ => ?_
  refine getstatic (i := 88) (v := (.ref va)) (pc' := 3) d_prog_16_method_1_0 rfl (hE.1.ext O8.2) rfl ?_
  refine old fun O _ => ?_
  refine cloneArr (i1 := 90) (i2 := 91) (i3 := 95) (i4 := 93) (i5 := 94) (i6 := 96) (Wd := 0) (cap := 4) (pc' := 6) d_prog_16_method_1_3 rfl rfl rfl rfl rfl rfl (hE.2.1.ext O.2) (hE.2.2.1.ext O.2) rfl (by decide) (by decide) (by decide) (by decide) (by decide) (by decide) rfl fun h1 r g1 E1 A1 X1 => ?_
  refine at' (ce' := 1) (sl' := 4) (pc' := 6) (L' := #[]) (S' := [(.ref r)]) rfl rfl rfl rfl rfl ?_
  refine checkcast (i := 102) (pc' := 9) d_prog_16_method_1_6 rfl (Ins.self X1) rfl ?_
  exact retA d_prog_16_method_1_9 rfl rfl rfl (by decide) (by decide) ⟨r, _, rfl, E1, A1⟩
set_option maxRecDepth 65536 in
set_option maxHeartbeats 40000000 in
theorem rm_empty (l : Launch) (Z : State) (a0 : Array Value) (hw : ∀ d ∈ tables_1, d.before a0 Z = true) (hEL : EW Z a0 consts_1) (n0 : Nat) (va : Addr) (kv : ClassId) (c0 c1 c2 c3 m0 m1 m2 m3 oe : Addr) (h : Heap)  (hE : En Z va kv c0 c1 c2 c3 m0 m1 m2 m3) (hO : Oe Z oe) (hB : Sets Z) :
    Met l false Z consts_1 n0 (⟨"java/util/Optional", "empty", "()Ljava/util/Optional;"⟩ : MethodName) jdk_32_method_1_code 1 (some (.object "java/util/Optional")) ({ frames := 0, cells := 0, slots := 0, locals := 0 } : Room) [] #[] [] h (fun v h' => v = some (.ref oe) ∧ h' = h) := by
  refine Met.of_body (a0 := a0) (L0 := #[.unset]) (plainFor_of_name (by first | (simp [plainName, overriddenIn]; done) | decide +kernel)) (fun m => by first | rfl | (simp [entryFrame, mkF, argsToLocals, Value.category]; done)) hw hEL (by decide) ?_
  refine old fun O9 _ => ?_
  refine getstatic (i := 84) (v := (.ref oe)) (pc' := 3) d_jdk_32_method_1_0 rfl (hO.1.ext O9.2) rfl ?_
  refine astoreN (pc' := 4) (L' := #[.val (.ref oe)]) d_jdk_32_method_1_3 rfl rfl rfl ?_
  refine aloadN (pc' := 5) d_jdk_32_method_1_4 rfl rfl rfl ?_
  exact retA d_jdk_32_method_1_5 rfl rfl rfl (by decide) (by decide) ⟨rfl, rfl⟩
set_option maxRecDepth 65536 in
set_option maxHeartbeats 40000000 in
theorem rm_rnn (l : Launch) (Z : State) (a0 : Array Value) (hw : ∀ d ∈ tables_1, d.before a0 Z = true) (hEL : EW Z a0 consts_1) (n0 : Nat) (a : Addr) (h : Heap)   :
    Met l false Z consts_1 n0 (⟨"java/util/Objects", "requireNonNull", "(Ljava/lang/Object;)Ljava/lang/Object;"⟩ : MethodName) jdk_31_method_10_code 1 (some (.object "java/lang/Object")) ({ frames := 0, cells := 0, slots := 0, locals := 0 } : Room) [] #[(.ref a)] [] h (fun v h' => v = some (.ref a) ∧ h' = h) := by
  refine Met.of_body (a0 := a0) (L0 := #[.val (.ref a)]) (plainFor_of_name (by first | (simp [plainName, overriddenIn]; done) | decide +kernel)) (fun m => by first | rfl | (simp [entryFrame, mkF, argsToLocals, Value.category]; done)) hw hEL (by decide) ?_
  refine aloadN (pc' := 1) d_jdk_31_method_10_0 rfl rfl rfl ?_
  refine ifnonnullT (pc' := 12) d_jdk_31_method_10_1 (by decide) rfl ?_
  refine aloadN (pc' := 13) d_jdk_31_method_10_12 rfl rfl rfl ?_
  exact retA d_jdk_31_method_10_13 rfl rfl rfl (by decide) (by decide) ⟨rfl, rfl⟩
set_option maxRecDepth 65536 in
set_option maxHeartbeats 40000000 in
theorem rm_oi (l : Launch) (Z : State) (a0 : Array Value) (hw : ∀ d ∈ tables_1, d.before a0 Z = true) (hEL : EW Z a0 consts_1) (n0 : Nat) (a c : Addr) (h : Heap) (Ea : Exa Z h a "java/util/Optional") (Fv : Fld Z h a "java/util/Optional" "value" "Ljava/lang/Object;" .null)  :
    Met l false Z consts_1 n0 (⟨"java/util/Optional", "<init>", "(Ljava/lang/Object;)V"⟩ : MethodName) jdk_32_method_2_code 2 none ({ frames := 1, cells := 0, slots := 0, locals := 12 } : Room) [] #[(.ref a), (.ref c)] [a] h (fun v h' => v = none ∧ Keep h h' [a] ∧ Exa Z h' a "java/util/Optional" ∧ Fld Z h' a "java/util/Optional" "value" "Ljava/lang/Object;" (.ref c)) := by
  refine Met.of_body (a0 := a0) (L0 := #[.val (.ref a), .val (.ref c)]) (plainFor_of_name (by first | (simp [plainName, overriddenIn]; done) | decide +kernel)) (fun m => by first | rfl | (simp [entryFrame, mkF, argsToLocals, Value.category]; done)) hw hEL (by decide) ?_
  have K : Keep h h [a] := Keep.refl _ _
  refine aloadN (pc' := 1) d_jdk_32_method_2_0 rfl rfl rfl ?_
  refine initObj (i := 139) (i2 := 64) (i3 := 65) (Wd := 0) (pc' := 4) d_jdk_32_method_2_1 rfl rfl rfl rfl (by decide) (Nat.le_of_ble_eq_true rfl) (by decide) rfl ?_
  refine aloadN (pc' := 5) d_jdk_32_method_2_4 rfl rfl rfl ?_
  refine aloadN (pc' := 6) d_jdk_32_method_2_5 rfl rfl rfl ?_
  refine putfield (i := 120) (i2 := 121) (i3 := 130) (pc' := 9) (v' := (.ref c)) (ty := (.object "java/lang/Object")) d_jdk_32_method_2_6 rfl (Or.inr ⟨rfl, rfl, rfl⟩) rfl Fv Ea (by decide) rfl rfl (by simp) rfl fun h10 W11 => ?_
  replace K := K.wr W11 (Or.inl (by simp))
  replace Ea := Ea.wr W11
  replace Fv := Fv.same W11
  exact retV d_jdk_32_method_2_9 rfl (by decide) (by decide) ⟨rfl, K, Ea, Fv⟩
set_option maxRecDepth 65536 in
set_option maxHeartbeats 40000000 in
theorem rm_of (l : Launch) (Z : State) (a0 : Array Value) (hw : ∀ d ∈ tables_1, d.before a0 Z = true) (hEL : EW Z a0 consts_1) (n0 : Nat) (c : Addr) (h : Heap)   :
    Met l false Z consts_1 n0 (⟨"java/util/Optional", "of", "(Ljava/lang/Object;)Ljava/util/Optional;"⟩ : MethodName) jdk_32_method_3_code 1 (some (.object "java/util/Optional")) ({ frames := 2, cells := 1, slots := 1, locals := 28 } : Room) [] #[(.ref c)] [] h (fun v h' => ∃ a, v = some (.ref a) ∧ Ext h h' ∧ Exa Z h' a "java/util/Optional" ∧ Fld Z h' a "java/util/Optional" "value" "Ljava/lang/Object;" (.ref c)) := by
  refine Met.of_body (a0 := a0) (L0 := #[.val (.ref c)]) (plainFor_of_name (by first | (simp [plainName, overriddenIn]; done) | decide +kernel)) (fun m => by first | rfl | (simp [entryFrame, mkF, argsToLocals, Value.category]; done)) hw hEL (by decide) ?_
  have K : Keep h h [] := Keep.refl _ _
  refine new (i := 129) (i2 := 130) (i3 := 82) (pc' := 3) d_jdk_32_method_3_0 rfl rfl rfl (by decide) (by decide) rfl fun h12 a13 g14 E15 A16 D17 => ?_
  have sz_a13 : h.size ≤ a13 := by rw [g14]; exact K.1
  replace K := K.ext E15
  have F_value_a13 : Fld Z h12 a13 "java/util/Optional" "value" "Ljava/lang/Object;" .null := D17 (Or.inr (hw _ (List.mem_of_getElem? (i := 121) rfl))) (ty := (.object "java/lang/Object")) (by decide)
  refine dup (pc' := 4) d_jdk_32_method_3_3 rfl rfl ?_
  refine aloadN (pc' := 5) d_jdk_32_method_3_4 rfl rfl rfl ?_
  refine call (i := 134) (i2 := 133) (Wd := 2) (pc' := 8) (kStatic (i := 131) (i2 := 132) (i3 := 133) (i4 := 134) (argsL := [(.ref c)]) (S' := [(.ref a13), (.ref a13)]) (Wd := 2) d_jdk_32_method_3_5 rfl rfl rfl rfl (by decide) rfl pd_1 rfl rfl (Nat.le_of_ble_eq_true rfl)) (rm_rnn l Z a0 hw hEL n0 c _) rfl rfl (by simp) (by decide) (by decide) (by decide) (by decide) rfl fun v_ h18 P19 sz20 => ?_
  obtain ⟨rfl, e21⟩ := P19
  rw [e21]
  refine at' (ce' := 1) (sl' := 1) (pc' := 8) (L' := #[.val (.ref c)]) (S' := [(.ref c), (.ref a13), (.ref a13)]) rfl rfl rfl rfl rfl ?_
  refine call (i := 138) (i2 := 82) (Wd := 1) (pc' := 11) (kInit (i := 135) (i2 := 136) (i4 := 138) (a := a13) (argsL := [(.ref c)]) (S' := [(.ref a13)]) (Wd := 1) d_jdk_32_method_3_8 rfl rfl rfl rfl (by decide) rfl pd_2 rfl rfl (Nat.le_of_ble_eq_true rfl)) (rm_oi l Z a0 hw hEL n0 a13 c _ A16 F_value_a13) rfl rfl (by simp) (by decide) (by decide) (by decide) (by decide) rfl fun v_ h22 P23 sz24 => ?_
  obtain ⟨rfl, K1, E1, F1⟩ := P23
  replace K := K.trans K1 (allS (Or.inr sz_a13) all0)
  replace A16 := A16.keep K1
  refine at' (ce' := 1) (sl' := 1) (pc' := 11) (L' := #[.val (.ref c)]) (S' := [(.ref a13)]) rfl rfl rfl rfl rfl ?_
  exact retA d_jdk_32_method_3_11 rfl rfl rfl (by decide) (by decide) ⟨a13, rfl, keepExt K, E1, F1⟩
set_option maxRecDepth 65536 in
set_option maxHeartbeats 40000000 in
theorem rm_orR (l : Launch) (Z : State) (a0 : Array Value) (hw : ∀ d ∈ tables_1, d.before a0 Z = true) (hEL : EW Z a0 consts_1) (n0 : Nat) (a c : Addr) (h : Heap) (Fv : Fld Z h a "java/util/Optional" "value" "Ljava/lang/Object;" (.ref c))  :
    Met l false Z consts_1 n0 (⟨"java/util/Optional", "orElse", "(Ljava/lang/Object;)Ljava/lang/Object;"⟩ : MethodName) jdk_32_method_15_code 2 (some (.object "java/lang/Object")) ({ frames := 0, cells := 0, slots := 0, locals := 0 } : Room) [] #[(.ref a), .null] [] h (fun v h' => v = some (.ref c) ∧ h' = h) := by
  refine Met.of_body (a0 := a0) (L0 := #[.val (.ref a), .val .null]) (plainFor_of_name (by first | (simp [plainName, overriddenIn]; done) | decide +kernel)) (fun m => by first | rfl | (simp [entryFrame, mkF, argsToLocals, Value.category]; done)) hw hEL (by decide) ?_
  refine aloadN (pc' := 1) d_jdk_32_method_15_0 rfl rfl rfl ?_
  refine getfield (i := 120) (pc' := 4) d_jdk_32_method_15_1 rfl Fv rfl ?_
  refine ifnullF (pc' := 7) d_jdk_32_method_15_4 rfl ?_
  refine aloadN (pc' := 8) d_jdk_32_method_15_7 rfl rfl rfl ?_
  refine getfield (i := 120) (pc' := 11) d_jdk_32_method_15_8 rfl Fv rfl ?_
  refine goto (pc' := 15) d_jdk_32_method_15_11 (by decide) rfl ?_
  exact retA d_jdk_32_method_15_15 rfl rfl rfl (by decide) (by decide) ⟨rfl, rfl⟩
set_option maxRecDepth 65536 in
set_option maxHeartbeats 40000000 in
theorem rm_orN (l : Launch) (Z : State) (a0 : Array Value) (hw : ∀ d ∈ tables_1, d.before a0 Z = true) (hEL : EW Z a0 consts_1) (n0 : Nat) (a : Addr) (h : Heap) (Fv : Fld Z h a "java/util/Optional" "value" "Ljava/lang/Object;" .null)  :
    Met l false Z consts_1 n0 (⟨"java/util/Optional", "orElse", "(Ljava/lang/Object;)Ljava/lang/Object;"⟩ : MethodName) jdk_32_method_15_code 2 (some (.object "java/lang/Object")) ({ frames := 0, cells := 0, slots := 0, locals := 0 } : Room) [] #[(.ref a), .null] [] h (fun v h' => v = some .null ∧ h' = h) := by
  refine Met.of_body (a0 := a0) (L0 := #[.val (.ref a), .val .null]) (plainFor_of_name (by first | (simp [plainName, overriddenIn]; done) | decide +kernel)) (fun m => by first | rfl | (simp [entryFrame, mkF, argsToLocals, Value.category]; done)) hw hEL (by decide) ?_
  refine aloadN (pc' := 1) d_jdk_32_method_15_0 rfl rfl rfl ?_
  refine getfield (i := 120) (pc' := 4) d_jdk_32_method_15_1 rfl Fv rfl ?_
  refine ifnullT (pc' := 14) d_jdk_32_method_15_4 (by decide) rfl ?_
  refine aloadN (pc' := 15) d_jdk_32_method_15_14 rfl rfl rfl ?_
  exact retA d_jdk_32_method_15_15 rfl rfl rfl (by decide) (by decide) ⟨rfl, rfl⟩
set_option maxRecDepth 65536 in
set_option maxHeartbeats 40000000 in
theorem rm_eqN (l : Launch) (Z : State) (a0 : Array Value) (hw : ∀ d ∈ tables_1, d.before a0 Z = true) (hEL : EW Z a0 consts_1) (n0 : Nat) (x : Addr) (h : Heap)   :
    Met l false Z consts_1 n0 (⟨"java/lang/String", "equals", "(Ljava/lang/Object;)Z"⟩ : MethodName) jdk_42_method_66_code 3 (some .boolean) ({ frames := 0, cells := 0, slots := 0, locals := 0 } : Room) [] #[(.ref x), .null] [] h (fun v h' => v = some (.int 0) ∧ h' = h) := by
  refine Met.of_body (a0 := a0) (L0 := #[.val (.ref x), .val .null, .unset]) (plainFor_of_name (by first | (simp [plainName, overriddenIn]; done) | decide +kernel)) (fun m => by first | rfl | (simp [entryFrame, mkF, argsToLocals, Value.category]; done)) hw hEL (by decide) ?_
  refine aloadN (pc' := 1) d_jdk_42_method_66_0 rfl rfl rfl ?_
  refine aloadN (pc' := 2) d_jdk_42_method_66_1 rfl rfl rfl ?_
  refine acmp (pc' := 7) (v := (.ref x)) (w := .null) false d_jdk_42_method_66_2 rfl rfl (decide_eq_false (fun q => Value.noConfusion q)) (by decide) rfl ?_
  refine aloadN (pc' := 8) d_jdk_42_method_66_7 rfl rfl rfl ?_
  refine instanceofNull (pc' := 11) d_jdk_42_method_66_8 rfl ?_
  refine ifT (pc' := 54) d_jdk_42_method_66_11 (rfl : (0 : Int32) = (0 : Int32)) (by decide) rfl ?_
  refine iconst (pc' := 55) (v := (0 : Int32)) d_jdk_42_method_66_54 rfl rfl ?_
  exact retI d_jdk_42_method_66_55 rfl (Or.inr (Or.inl rfl)) rfl (by decide) (by decide) ⟨rfl, rfl⟩
set_option maxRecDepth 65536 in
set_option maxHeartbeats 40000000 in
theorem rm_named0 (l : Launch) (Z : State) (a0 : Array Value) (hw : ∀ d ∈ tables_1, d.before a0 Z = true) (hEL : EW Z a0 consts_1) (n0 : Nat) (va : Addr) (kv : ClassId) (c0 c1 c2 c3 m0 m1 m2 m3 oe : Addr) (s : Addr) (cs : List Int32) (h : Heap) (Ss : Str Z h s cs) (hE : En Z va kv c0 c1 c2 c3 m0 m1 m2 m3) (hO : Oe Z oe) (hB : Sets Z) (hcs : cs = ([114, 111, 117, 110, 100, 114, 111, 98, 105, 110] : List Int32)) :
    Met l false Z consts_1 n0 (⟨"com/example/contesta/contesta/fusion/Method", "named", "(Ljava/lang/String;)Ljava/util/Optional;"⟩ : MethodName) prog_16_method_6_code 6 (some (.object "java/util/Optional")) ({ frames := 3, cells := 2, slots := 5, locals := 45 } : Room) [] #[(.ref s)] [] h (fun v h' => ∃ a, v = some (.ref a) ∧ Ext h h' ∧ Exa Z h' a "java/util/Optional" ∧ Fld Z h' a "java/util/Optional" "value" "Ljava/lang/Object;" (.ref c0)) := by
  refine Met.of_body (a0 := a0) (L0 := #[.val (.ref s), .unset, .unset, .unset, .unset, .unset]) (plainFor_of_name (by first | (simp [plainName, overriddenIn]; done) | decide +kernel)) (fun m => by first | rfl | (simp [entryFrame, mkF, argsToLocals, Value.category]; done)) hw hEL (by decide) ?_
  have K : Keep h h [] := Keep.refl _ _
  refine call (i := 83) (i2 := 82) (Wd := 0) (pc' := 3) (kStatic (i := 80) (i2 := 81) (i3 := 82) (i4 := 83) (argsL := []) (S' := []) (Wd := 0) d_prog_16_method_6_0 rfl rfl rfl rfl (by decide) rfl pd_3 rfl rfl (Nat.le_of_ble_eq_true rfl)) (rm_empty l Z a0 hw hEL n0 va kv c0 c1 c2 c3 m0 m1 m2 m3 oe _ hE hO hB) rfl rfl (by simp) (by decide) (by decide) (by decide) (by decide) rfl fun v_ h25 P26 sz27 => ?_
  obtain ⟨rfl, e28⟩ := P26
  rw [e28]
  refine at' (ce' := 0) (sl' := 0) (pc' := 3) (L' := #[.val (.ref s), .unset, .unset, .unset, .unset, .unset]) (S' := [(.ref oe)]) rfl rfl rfl rfl rfl ?_
  refine astoreN (pc' := 4) (L' := #[.val (.ref s), .val (.ref oe), .unset, .unset, .unset, .unset]) d_prog_16_method_6_3 rfl rfl rfl ?_
  refine call (i := 87) (i2 := 78) (Wd := 0) (pc' := 7) (kStatic (i := 85) (i2 := 86) (i3 := 78) (i4 := 87) (argsL := []) (S' := []) (Wd := 0) d_prog_16_method_6_4 rfl rfl rfl rfl (by decide) rfl pd_4 rfl rfl (Nat.le_of_ble_eq_true rfl)) (rm_values l Z a0 hw hEL n0 va kv c0 c1 c2 c3 m0 m1 m2 m3 oe _ hE hO hB) rfl rfl (by simp) (by decide) (by decide) (by decide) (by decide) rfl fun v_ h29 P30 sz31 => ?_
  obtain ⟨r, kc, rfl, E1, A1⟩ := P30
  replace K := K.ext E1
  replace Ss := Ss.ext E1
  refine at' (ce' := 1) (sl' := 4) (pc' := 7) (L' := #[.val (.ref s), .val (.ref oe), .unset, .unset, .unset, .unset]) (S' := [(.ref r)]) rfl rfl rfl rfl rfl ?_
  refine astoreN (pc' := 8) (L' := #[.val (.ref s), .val (.ref oe), .val (.ref r), .unset, .unset, .unset]) d_prog_16_method_6_7 rfl rfl rfl ?_
  refine aloadN (pc' := 9) d_prog_16_method_6_8 rfl rfl rfl ?_
  refine arraylength (pc' := 10) d_prog_16_method_6_9 A1 rfl ?_
  refine istoreN (pc' := 11) (L' := #[.val (.ref s), .val (.ref oe), .val (.ref r), .val (.int (4 : Int32)), .unset, .unset]) d_prog_16_method_6_10 rfl rfl ?_
  refine iconst (pc' := 12) (v := (0 : Int32)) d_prog_16_method_6_11 rfl rfl ?_
  refine istore (pc' := 14) (L' := #[.val (.ref s), .val (.ref oe), .val (.ref r), .val (.int (4 : Int32)), .val (.int (0 : Int32)), .unset]) d_prog_16_method_6_12 rfl rfl ?_
  refine iload (pc' := 16) d_prog_16_method_6_14 rfl rfl ?_
  refine iloadN (pc' := 17) d_prog_16_method_6_16 rfl rfl ?_
  refine icmpF (pc' := 20) d_prog_16_method_6_17 (by decide : (0 : Int32) < (4 : Int32)) rfl ?_
  refine aloadN (pc' := 21) d_prog_16_method_6_20 rfl rfl rfl ?_
  refine iload (pc' := 23) d_prog_16_method_6_21 rfl rfl ?_
  refine aaload (pc' := 24) (v := .ref c0) d_prog_16_method_6_23 rfl A1 ⟨by decide, by decide⟩ rfl rfl ?_
  refine astore (pc' := 26) (L' := #[.val (.ref s), .val (.ref oe), .val (.ref r), .val (.int (4 : Int32)), .val (.int (0 : Int32)), .val (.ref c0)]) d_prog_16_method_6_24 rfl rfl rfl ?_
  refine aload (pc' := 28) d_prog_16_method_6_26 rfl rfl rfl ?_
  refine old fun O0 _ => ?_
  refine getfield (i := 104) (pc' := 31) d_prog_16_method_6_28 rfl (hE.2.2.2.1.2.2.1.ext O0.2) rfl ?_
  refine aloadN (pc' := 32) d_prog_16_method_6_31 rfl rfl rfl ?_
  refine strEq (i := 6) (Wd := 0) (pc' := 35) hB (by decide +kernel) rfl (kVirt (i := 106) (i2 := 107) (i3 := 109) (i4 := 108) (C := "java/lang/String") (a := m0) (argsL := [(.ref s)]) (S' := []) (Wd := 0) d_prog_16_method_6_32 rfl rfl rfl rfl (hE.2.2.2.1.2.2.2.ext O0.2).exa (by decide) rfl pd_5 rfl rfl (Nat.le_of_ble_eq_true rfl)) (hE.2.2.2.1.2.2.2.ext O0.2) Ss (by decide) (by decide) (by decide) (by decide) rfl fun b0 q0 => ?_
  obtain rfl : b0 = 1 := by rcases q0 with ⟨r, q⟩ | ⟨r, q⟩ <;> rw [hcs] at q <;> first | exact r | exact absurd q (by decide) | exact absurd rfl q
  refine ifF (pc' := 38) d_prog_16_method_6_35 (by decide : ¬ ((1 : Int32) = (0 : Int32))) rfl ?_
  refine aload (pc' := 40) d_prog_16_method_6_38 rfl rfl rfl ?_
  refine call (i := 128) (i2 := 82) (Wd := 0) (pc' := 43) (kStatic (i := 126) (i2 := 127) (i3 := 82) (i4 := 128) (argsL := [(.ref c0)]) (S' := []) (Wd := 0) d_prog_16_method_6_40 rfl rfl rfl rfl (by decide) rfl pd_6 rfl rfl (Nat.le_of_ble_eq_true rfl)) (rm_of l Z a0 hw hEL n0 c0 _) rfl rfl (by simp) (by decide) (by decide) (by decide) (by decide) rfl fun v_ h32 P33 sz34 => ?_
  obtain ⟨o, rfl, X1, Eo, Fo⟩ := P33
  replace K := K.ext X1
  replace Ss := Ss.ext X1
  replace A1 := A1.ext X1
  refine at' (ce' := 2) (sl' := 5) (pc' := 43) (L' := #[.val (.ref s), .val (.ref oe), .val (.ref r), .val (.int (4 : Int32)), .val (.int (0 : Int32)), .val (.ref c0)]) (S' := [(.ref o)]) rfl rfl rfl rfl rfl ?_
  refine astoreN (pc' := 44) (L' := #[.val (.ref s), .val (.ref o), .val (.ref r), .val (.int (4 : Int32)), .val (.int (0 : Int32)), .val (.ref c0)]) d_prog_16_method_6_43 rfl rfl rfl ?_
  refine iinc (pc' := 47) (v := (1 : Int32)) (L' := #[.val (.ref s), .val (.ref o), .val (.ref r), .val (.int (4 : Int32)), .val (.int (1 : Int32)), .val (.ref c0)]) d_prog_16_method_6_44 rfl rfl rfl rfl ?_
  refine goto (pc' := 14) d_prog_16_method_6_47 (by decide) rfl ?_
  refine iload (pc' := 16) d_prog_16_method_6_14 rfl rfl ?_
  refine iloadN (pc' := 17) d_prog_16_method_6_16 rfl rfl ?_
  refine icmpF (pc' := 20) d_prog_16_method_6_17 (by decide : (1 : Int32) < (4 : Int32)) rfl ?_
  refine aloadN (pc' := 21) d_prog_16_method_6_20 rfl rfl rfl ?_
  refine iload (pc' := 23) d_prog_16_method_6_21 rfl rfl ?_
  refine aaload (pc' := 24) (v := .ref c1) d_prog_16_method_6_23 rfl A1 ⟨by decide, by decide⟩ rfl rfl ?_
  refine astore (pc' := 26) (L' := #[.val (.ref s), .val (.ref o), .val (.ref r), .val (.int (4 : Int32)), .val (.int (1 : Int32)), .val (.ref c1)]) d_prog_16_method_6_24 rfl rfl rfl ?_
  refine aload (pc' := 28) d_prog_16_method_6_26 rfl rfl rfl ?_
  refine old fun O1 _ => ?_
  refine getfield (i := 104) (pc' := 31) d_prog_16_method_6_28 rfl (hE.2.2.2.2.1.2.2.1.ext O1.2) rfl ?_
  refine aloadN (pc' := 32) d_prog_16_method_6_31 rfl rfl rfl ?_
  refine strEq (i := 6) (Wd := 0) (pc' := 35) hB (by decide +kernel) rfl (kVirt (i := 106) (i2 := 107) (i3 := 109) (i4 := 108) (C := "java/lang/String") (a := m1) (argsL := [(.ref s)]) (S' := []) (Wd := 0) d_prog_16_method_6_32 rfl rfl rfl rfl (hE.2.2.2.2.1.2.2.2.ext O1.2).exa (by decide) rfl pd_5 rfl rfl (Nat.le_of_ble_eq_true rfl)) (hE.2.2.2.2.1.2.2.2.ext O1.2) Ss (by decide) (by decide) (by decide) (by decide) rfl fun b1 q1 => ?_
  obtain rfl : b1 = 0 := by rcases q1 with ⟨r, q⟩ | ⟨r, q⟩ <;> rw [hcs] at q <;> first | exact r | exact absurd q (by decide) | exact absurd rfl q
  refine ifT (pc' := 44) d_prog_16_method_6_35 (rfl : (0 : Int32) = (0 : Int32)) (by decide) rfl ?_
  refine iinc (pc' := 47) (v := (2 : Int32)) (L' := #[.val (.ref s), .val (.ref o), .val (.ref r), .val (.int (4 : Int32)), .val (.int (2 : Int32)), .val (.ref c1)]) d_prog_16_method_6_44 rfl rfl rfl rfl ?_
  refine goto (pc' := 14) d_prog_16_method_6_47 (by decide) rfl ?_
  refine iload (pc' := 16) d_prog_16_method_6_14 rfl rfl ?_
  refine iloadN (pc' := 17) d_prog_16_method_6_16 rfl rfl ?_
  refine icmpF (pc' := 20) d_prog_16_method_6_17 (by decide : (2 : Int32) < (4 : Int32)) rfl ?_
  refine aloadN (pc' := 21) d_prog_16_method_6_20 rfl rfl rfl ?_
  refine iload (pc' := 23) d_prog_16_method_6_21 rfl rfl ?_
  refine aaload (pc' := 24) (v := .ref c2) d_prog_16_method_6_23 rfl A1 ⟨by decide, by decide⟩ rfl rfl ?_
  refine astore (pc' := 26) (L' := #[.val (.ref s), .val (.ref o), .val (.ref r), .val (.int (4 : Int32)), .val (.int (2 : Int32)), .val (.ref c2)]) d_prog_16_method_6_24 rfl rfl rfl ?_
  refine aload (pc' := 28) d_prog_16_method_6_26 rfl rfl rfl ?_
  refine old fun O2 _ => ?_
  refine getfield (i := 104) (pc' := 31) d_prog_16_method_6_28 rfl (hE.2.2.2.2.2.1.2.2.1.ext O2.2) rfl ?_
  refine aloadN (pc' := 32) d_prog_16_method_6_31 rfl rfl rfl ?_
  refine strEq (i := 6) (Wd := 0) (pc' := 35) hB (by decide +kernel) rfl (kVirt (i := 106) (i2 := 107) (i3 := 109) (i4 := 108) (C := "java/lang/String") (a := m2) (argsL := [(.ref s)]) (S' := []) (Wd := 0) d_prog_16_method_6_32 rfl rfl rfl rfl (hE.2.2.2.2.2.1.2.2.2.ext O2.2).exa (by decide) rfl pd_5 rfl rfl (Nat.le_of_ble_eq_true rfl)) (hE.2.2.2.2.2.1.2.2.2.ext O2.2) Ss (by decide) (by decide) (by decide) (by decide) rfl fun b2 q2 => ?_
  obtain rfl : b2 = 0 := by rcases q2 with ⟨r, q⟩ | ⟨r, q⟩ <;> rw [hcs] at q <;> first | exact r | exact absurd q (by decide) | exact absurd rfl q
  refine ifT (pc' := 44) d_prog_16_method_6_35 (rfl : (0 : Int32) = (0 : Int32)) (by decide) rfl ?_
  refine iinc (pc' := 47) (v := (3 : Int32)) (L' := #[.val (.ref s), .val (.ref o), .val (.ref r), .val (.int (4 : Int32)), .val (.int (3 : Int32)), .val (.ref c2)]) d_prog_16_method_6_44 rfl rfl rfl rfl ?_
  refine goto (pc' := 14) d_prog_16_method_6_47 (by decide) rfl ?_
  refine iload (pc' := 16) d_prog_16_method_6_14 rfl rfl ?_
  refine iloadN (pc' := 17) d_prog_16_method_6_16 rfl rfl ?_
  refine icmpF (pc' := 20) d_prog_16_method_6_17 (by decide : (3 : Int32) < (4 : Int32)) rfl ?_
  refine aloadN (pc' := 21) d_prog_16_method_6_20 rfl rfl rfl ?_
  refine iload (pc' := 23) d_prog_16_method_6_21 rfl rfl ?_
  refine aaload (pc' := 24) (v := .ref c3) d_prog_16_method_6_23 rfl A1 ⟨by decide, by decide⟩ rfl rfl ?_
  refine astore (pc' := 26) (L' := #[.val (.ref s), .val (.ref o), .val (.ref r), .val (.int (4 : Int32)), .val (.int (3 : Int32)), .val (.ref c3)]) d_prog_16_method_6_24 rfl rfl rfl ?_
  refine aload (pc' := 28) d_prog_16_method_6_26 rfl rfl rfl ?_
  refine old fun O3 _ => ?_
  refine getfield (i := 104) (pc' := 31) d_prog_16_method_6_28 rfl (hE.2.2.2.2.2.2.2.2.1.ext O3.2) rfl ?_
  refine aloadN (pc' := 32) d_prog_16_method_6_31 rfl rfl rfl ?_
  refine strEq (i := 6) (Wd := 0) (pc' := 35) hB (by decide +kernel) rfl (kVirt (i := 106) (i2 := 107) (i3 := 109) (i4 := 108) (C := "java/lang/String") (a := m3) (argsL := [(.ref s)]) (S' := []) (Wd := 0) d_prog_16_method_6_32 rfl rfl rfl rfl (hE.2.2.2.2.2.2.2.2.2.ext O3.2).exa (by decide) rfl pd_5 rfl rfl (Nat.le_of_ble_eq_true rfl)) (hE.2.2.2.2.2.2.2.2.2.ext O3.2) Ss (by decide) (by decide) (by decide) (by decide) rfl fun b3 q3 => ?_
  obtain rfl : b3 = 0 := by rcases q3 with ⟨r, q⟩ | ⟨r, q⟩ <;> rw [hcs] at q <;> first | exact r | exact absurd q (by decide) | exact absurd rfl q
  refine ifT (pc' := 44) d_prog_16_method_6_35 (rfl : (0 : Int32) = (0 : Int32)) (by decide) rfl ?_
  refine iinc (pc' := 47) (v := (4 : Int32)) (L' := #[.val (.ref s), .val (.ref o), .val (.ref r), .val (.int (4 : Int32)), .val (.int (4 : Int32)), .val (.ref c3)]) d_prog_16_method_6_44 rfl rfl rfl rfl ?_
  refine goto (pc' := 14) d_prog_16_method_6_47 (by decide) rfl ?_
  refine iload (pc' := 16) d_prog_16_method_6_14 rfl rfl ?_
  refine iloadN (pc' := 17) d_prog_16_method_6_16 rfl rfl ?_
  refine icmpT (pc' := 50) d_prog_16_method_6_17 (by decide : ¬ ((4 : Int32) < (4 : Int32))) (by decide) rfl ?_
  refine aloadN (pc' := 51) d_prog_16_method_6_50 rfl rfl rfl ?_
  exact retA d_prog_16_method_6_51 rfl rfl rfl (by decide) (by decide) ⟨o, rfl, keepExt K, Eo, Fo⟩
set_option maxRecDepth 65536 in
set_option maxHeartbeats 40000000 in
theorem rm_named1 (l : Launch) (Z : State) (a0 : Array Value) (hw : ∀ d ∈ tables_1, d.before a0 Z = true) (hEL : EW Z a0 consts_1) (n0 : Nat) (va : Addr) (kv : ClassId) (c0 c1 c2 c3 m0 m1 m2 m3 oe : Addr) (s : Addr) (cs : List Int32) (h : Heap) (Ss : Str Z h s cs) (hE : En Z va kv c0 c1 c2 c3 m0 m1 m2 m3) (hO : Oe Z oe) (hB : Sets Z) (hcs : cs = ([114, 115, 118] : List Int32)) :
    Met l false Z consts_1 n0 (⟨"com/example/contesta/contesta/fusion/Method", "named", "(Ljava/lang/String;)Ljava/util/Optional;"⟩ : MethodName) prog_16_method_6_code 6 (some (.object "java/util/Optional")) ({ frames := 3, cells := 2, slots := 5, locals := 45 } : Room) [] #[(.ref s)] [] h (fun v h' => ∃ a, v = some (.ref a) ∧ Ext h h' ∧ Exa Z h' a "java/util/Optional" ∧ Fld Z h' a "java/util/Optional" "value" "Ljava/lang/Object;" (.ref c1)) := by
  refine Met.of_body (a0 := a0) (L0 := #[.val (.ref s), .unset, .unset, .unset, .unset, .unset]) (plainFor_of_name (by first | (simp [plainName, overriddenIn]; done) | decide +kernel)) (fun m => by first | rfl | (simp [entryFrame, mkF, argsToLocals, Value.category]; done)) hw hEL (by decide) ?_
  have K : Keep h h [] := Keep.refl _ _
  refine call (i := 83) (i2 := 82) (Wd := 0) (pc' := 3) (kStatic (i := 80) (i2 := 81) (i3 := 82) (i4 := 83) (argsL := []) (S' := []) (Wd := 0) d_prog_16_method_6_0 rfl rfl rfl rfl (by decide) rfl pd_3 rfl rfl (Nat.le_of_ble_eq_true rfl)) (rm_empty l Z a0 hw hEL n0 va kv c0 c1 c2 c3 m0 m1 m2 m3 oe _ hE hO hB) rfl rfl (by simp) (by decide) (by decide) (by decide) (by decide) rfl fun v_ h35 P36 sz37 => ?_
  obtain ⟨rfl, e38⟩ := P36
  rw [e38]
  refine at' (ce' := 0) (sl' := 0) (pc' := 3) (L' := #[.val (.ref s), .unset, .unset, .unset, .unset, .unset]) (S' := [(.ref oe)]) rfl rfl rfl rfl rfl ?_
  refine astoreN (pc' := 4) (L' := #[.val (.ref s), .val (.ref oe), .unset, .unset, .unset, .unset]) d_prog_16_method_6_3 rfl rfl rfl ?_
  refine call (i := 87) (i2 := 78) (Wd := 0) (pc' := 7) (kStatic (i := 85) (i2 := 86) (i3 := 78) (i4 := 87) (argsL := []) (S' := []) (Wd := 0) d_prog_16_method_6_4 rfl rfl rfl rfl (by decide) rfl pd_4 rfl rfl (Nat.le_of_ble_eq_true rfl)) (rm_values l Z a0 hw hEL n0 va kv c0 c1 c2 c3 m0 m1 m2 m3 oe _ hE hO hB) rfl rfl (by simp) (by decide) (by decide) (by decide) (by decide) rfl fun v_ h39 P40 sz41 => ?_
  obtain ⟨r, kc, rfl, E1, A1⟩ := P40
  replace K := K.ext E1
  replace Ss := Ss.ext E1
  refine at' (ce' := 1) (sl' := 4) (pc' := 7) (L' := #[.val (.ref s), .val (.ref oe), .unset, .unset, .unset, .unset]) (S' := [(.ref r)]) rfl rfl rfl rfl rfl ?_
  refine astoreN (pc' := 8) (L' := #[.val (.ref s), .val (.ref oe), .val (.ref r), .unset, .unset, .unset]) d_prog_16_method_6_7 rfl rfl rfl ?_
  refine aloadN (pc' := 9) d_prog_16_method_6_8 rfl rfl rfl ?_
  refine arraylength (pc' := 10) d_prog_16_method_6_9 A1 rfl ?_
  refine istoreN (pc' := 11) (L' := #[.val (.ref s), .val (.ref oe), .val (.ref r), .val (.int (4 : Int32)), .unset, .unset]) d_prog_16_method_6_10 rfl rfl ?_
  refine iconst (pc' := 12) (v := (0 : Int32)) d_prog_16_method_6_11 rfl rfl ?_
  refine istore (pc' := 14) (L' := #[.val (.ref s), .val (.ref oe), .val (.ref r), .val (.int (4 : Int32)), .val (.int (0 : Int32)), .unset]) d_prog_16_method_6_12 rfl rfl ?_
  refine iload (pc' := 16) d_prog_16_method_6_14 rfl rfl ?_
  refine iloadN (pc' := 17) d_prog_16_method_6_16 rfl rfl ?_
  refine icmpF (pc' := 20) d_prog_16_method_6_17 (by decide : (0 : Int32) < (4 : Int32)) rfl ?_
  refine aloadN (pc' := 21) d_prog_16_method_6_20 rfl rfl rfl ?_
  refine iload (pc' := 23) d_prog_16_method_6_21 rfl rfl ?_
  refine aaload (pc' := 24) (v := .ref c0) d_prog_16_method_6_23 rfl A1 ⟨by decide, by decide⟩ rfl rfl ?_
  refine astore (pc' := 26) (L' := #[.val (.ref s), .val (.ref oe), .val (.ref r), .val (.int (4 : Int32)), .val (.int (0 : Int32)), .val (.ref c0)]) d_prog_16_method_6_24 rfl rfl rfl ?_
  refine aload (pc' := 28) d_prog_16_method_6_26 rfl rfl rfl ?_
  refine old fun O0 _ => ?_
  refine getfield (i := 104) (pc' := 31) d_prog_16_method_6_28 rfl (hE.2.2.2.1.2.2.1.ext O0.2) rfl ?_
  refine aloadN (pc' := 32) d_prog_16_method_6_31 rfl rfl rfl ?_
  refine strEq (i := 6) (Wd := 0) (pc' := 35) hB (by decide +kernel) rfl (kVirt (i := 106) (i2 := 107) (i3 := 109) (i4 := 108) (C := "java/lang/String") (a := m0) (argsL := [(.ref s)]) (S' := []) (Wd := 0) d_prog_16_method_6_32 rfl rfl rfl rfl (hE.2.2.2.1.2.2.2.ext O0.2).exa (by decide) rfl pd_5 rfl rfl (Nat.le_of_ble_eq_true rfl)) (hE.2.2.2.1.2.2.2.ext O0.2) Ss (by decide) (by decide) (by decide) (by decide) rfl fun b0 q0 => ?_
  obtain rfl : b0 = 0 := by rcases q0 with ⟨r, q⟩ | ⟨r, q⟩ <;> rw [hcs] at q <;> first | exact r | exact absurd q (by decide) | exact absurd rfl q
  refine ifT (pc' := 44) d_prog_16_method_6_35 (rfl : (0 : Int32) = (0 : Int32)) (by decide) rfl ?_
  refine iinc (pc' := 47) (v := (1 : Int32)) (L' := #[.val (.ref s), .val (.ref oe), .val (.ref r), .val (.int (4 : Int32)), .val (.int (1 : Int32)), .val (.ref c0)]) d_prog_16_method_6_44 rfl rfl rfl rfl ?_
  refine goto (pc' := 14) d_prog_16_method_6_47 (by decide) rfl ?_
  refine iload (pc' := 16) d_prog_16_method_6_14 rfl rfl ?_
  refine iloadN (pc' := 17) d_prog_16_method_6_16 rfl rfl ?_
  refine icmpF (pc' := 20) d_prog_16_method_6_17 (by decide : (1 : Int32) < (4 : Int32)) rfl ?_
  refine aloadN (pc' := 21) d_prog_16_method_6_20 rfl rfl rfl ?_
  refine iload (pc' := 23) d_prog_16_method_6_21 rfl rfl ?_
  refine aaload (pc' := 24) (v := .ref c1) d_prog_16_method_6_23 rfl A1 ⟨by decide, by decide⟩ rfl rfl ?_
  refine astore (pc' := 26) (L' := #[.val (.ref s), .val (.ref oe), .val (.ref r), .val (.int (4 : Int32)), .val (.int (1 : Int32)), .val (.ref c1)]) d_prog_16_method_6_24 rfl rfl rfl ?_
  refine aload (pc' := 28) d_prog_16_method_6_26 rfl rfl rfl ?_
  refine old fun O1 _ => ?_
  refine getfield (i := 104) (pc' := 31) d_prog_16_method_6_28 rfl (hE.2.2.2.2.1.2.2.1.ext O1.2) rfl ?_
  refine aloadN (pc' := 32) d_prog_16_method_6_31 rfl rfl rfl ?_
  refine strEq (i := 6) (Wd := 0) (pc' := 35) hB (by decide +kernel) rfl (kVirt (i := 106) (i2 := 107) (i3 := 109) (i4 := 108) (C := "java/lang/String") (a := m1) (argsL := [(.ref s)]) (S' := []) (Wd := 0) d_prog_16_method_6_32 rfl rfl rfl rfl (hE.2.2.2.2.1.2.2.2.ext O1.2).exa (by decide) rfl pd_5 rfl rfl (Nat.le_of_ble_eq_true rfl)) (hE.2.2.2.2.1.2.2.2.ext O1.2) Ss (by decide) (by decide) (by decide) (by decide) rfl fun b1 q1 => ?_
  obtain rfl : b1 = 1 := by rcases q1 with ⟨r, q⟩ | ⟨r, q⟩ <;> rw [hcs] at q <;> first | exact r | exact absurd q (by decide) | exact absurd rfl q
  refine ifF (pc' := 38) d_prog_16_method_6_35 (by decide : ¬ ((1 : Int32) = (0 : Int32))) rfl ?_
  refine aload (pc' := 40) d_prog_16_method_6_38 rfl rfl rfl ?_
  refine call (i := 128) (i2 := 82) (Wd := 0) (pc' := 43) (kStatic (i := 126) (i2 := 127) (i3 := 82) (i4 := 128) (argsL := [(.ref c1)]) (S' := []) (Wd := 0) d_prog_16_method_6_40 rfl rfl rfl rfl (by decide) rfl pd_6 rfl rfl (Nat.le_of_ble_eq_true rfl)) (rm_of l Z a0 hw hEL n0 c1 _) rfl rfl (by simp) (by decide) (by decide) (by decide) (by decide) rfl fun v_ h42 P43 sz44 => ?_
  obtain ⟨o, rfl, X1, Eo, Fo⟩ := P43
  replace K := K.ext X1
  replace Ss := Ss.ext X1
  replace A1 := A1.ext X1
  refine at' (ce' := 2) (sl' := 5) (pc' := 43) (L' := #[.val (.ref s), .val (.ref oe), .val (.ref r), .val (.int (4 : Int32)), .val (.int (1 : Int32)), .val (.ref c1)]) (S' := [(.ref o)]) rfl rfl rfl rfl rfl ?_
  refine astoreN (pc' := 44) (L' := #[.val (.ref s), .val (.ref o), .val (.ref r), .val (.int (4 : Int32)), .val (.int (1 : Int32)), .val (.ref c1)]) d_prog_16_method_6_43 rfl rfl rfl ?_
  refine iinc (pc' := 47) (v := (2 : Int32)) (L' := #[.val (.ref s), .val (.ref o), .val (.ref r), .val (.int (4 : Int32)), .val (.int (2 : Int32)), .val (.ref c1)]) d_prog_16_method_6_44 rfl rfl rfl rfl ?_
  refine goto (pc' := 14) d_prog_16_method_6_47 (by decide) rfl ?_
  refine iload (pc' := 16) d_prog_16_method_6_14 rfl rfl ?_
  refine iloadN (pc' := 17) d_prog_16_method_6_16 rfl rfl ?_
  refine icmpF (pc' := 20) d_prog_16_method_6_17 (by decide : (2 : Int32) < (4 : Int32)) rfl ?_
  refine aloadN (pc' := 21) d_prog_16_method_6_20 rfl rfl rfl ?_
  refine iload (pc' := 23) d_prog_16_method_6_21 rfl rfl ?_
  refine aaload (pc' := 24) (v := .ref c2) d_prog_16_method_6_23 rfl A1 ⟨by decide, by decide⟩ rfl rfl ?_
  refine astore (pc' := 26) (L' := #[.val (.ref s), .val (.ref o), .val (.ref r), .val (.int (4 : Int32)), .val (.int (2 : Int32)), .val (.ref c2)]) d_prog_16_method_6_24 rfl rfl rfl ?_
  refine aload (pc' := 28) d_prog_16_method_6_26 rfl rfl rfl ?_
  refine old fun O2 _ => ?_
  refine getfield (i := 104) (pc' := 31) d_prog_16_method_6_28 rfl (hE.2.2.2.2.2.1.2.2.1.ext O2.2) rfl ?_
  refine aloadN (pc' := 32) d_prog_16_method_6_31 rfl rfl rfl ?_
  refine strEq (i := 6) (Wd := 0) (pc' := 35) hB (by decide +kernel) rfl (kVirt (i := 106) (i2 := 107) (i3 := 109) (i4 := 108) (C := "java/lang/String") (a := m2) (argsL := [(.ref s)]) (S' := []) (Wd := 0) d_prog_16_method_6_32 rfl rfl rfl rfl (hE.2.2.2.2.2.1.2.2.2.ext O2.2).exa (by decide) rfl pd_5 rfl rfl (Nat.le_of_ble_eq_true rfl)) (hE.2.2.2.2.2.1.2.2.2.ext O2.2) Ss (by decide) (by decide) (by decide) (by decide) rfl fun b2 q2 => ?_
  obtain rfl : b2 = 0 := by rcases q2 with ⟨r, q⟩ | ⟨r, q⟩ <;> rw [hcs] at q <;> first | exact r | exact absurd q (by decide) | exact absurd rfl q
  refine ifT (pc' := 44) d_prog_16_method_6_35 (rfl : (0 : Int32) = (0 : Int32)) (by decide) rfl ?_
  refine iinc (pc' := 47) (v := (3 : Int32)) (L' := #[.val (.ref s), .val (.ref o), .val (.ref r), .val (.int (4 : Int32)), .val (.int (3 : Int32)), .val (.ref c2)]) d_prog_16_method_6_44 rfl rfl rfl rfl ?_
  refine goto (pc' := 14) d_prog_16_method_6_47 (by decide) rfl ?_
  refine iload (pc' := 16) d_prog_16_method_6_14 rfl rfl ?_
  refine iloadN (pc' := 17) d_prog_16_method_6_16 rfl rfl ?_
  refine icmpF (pc' := 20) d_prog_16_method_6_17 (by decide : (3 : Int32) < (4 : Int32)) rfl ?_
  refine aloadN (pc' := 21) d_prog_16_method_6_20 rfl rfl rfl ?_
  refine iload (pc' := 23) d_prog_16_method_6_21 rfl rfl ?_
  refine aaload (pc' := 24) (v := .ref c3) d_prog_16_method_6_23 rfl A1 ⟨by decide, by decide⟩ rfl rfl ?_
  refine astore (pc' := 26) (L' := #[.val (.ref s), .val (.ref o), .val (.ref r), .val (.int (4 : Int32)), .val (.int (3 : Int32)), .val (.ref c3)]) d_prog_16_method_6_24 rfl rfl rfl ?_
  refine aload (pc' := 28) d_prog_16_method_6_26 rfl rfl rfl ?_
  refine old fun O3 _ => ?_
  refine getfield (i := 104) (pc' := 31) d_prog_16_method_6_28 rfl (hE.2.2.2.2.2.2.2.2.1.ext O3.2) rfl ?_
  refine aloadN (pc' := 32) d_prog_16_method_6_31 rfl rfl rfl ?_
  refine strEq (i := 6) (Wd := 0) (pc' := 35) hB (by decide +kernel) rfl (kVirt (i := 106) (i2 := 107) (i3 := 109) (i4 := 108) (C := "java/lang/String") (a := m3) (argsL := [(.ref s)]) (S' := []) (Wd := 0) d_prog_16_method_6_32 rfl rfl rfl rfl (hE.2.2.2.2.2.2.2.2.2.ext O3.2).exa (by decide) rfl pd_5 rfl rfl (Nat.le_of_ble_eq_true rfl)) (hE.2.2.2.2.2.2.2.2.2.ext O3.2) Ss (by decide) (by decide) (by decide) (by decide) rfl fun b3 q3 => ?_
  obtain rfl : b3 = 0 := by rcases q3 with ⟨r, q⟩ | ⟨r, q⟩ <;> rw [hcs] at q <;> first | exact r | exact absurd q (by decide) | exact absurd rfl q
  refine ifT (pc' := 44) d_prog_16_method_6_35 (rfl : (0 : Int32) = (0 : Int32)) (by decide) rfl ?_
  refine iinc (pc' := 47) (v := (4 : Int32)) (L' := #[.val (.ref s), .val (.ref o), .val (.ref r), .val (.int (4 : Int32)), .val (.int (4 : Int32)), .val (.ref c3)]) d_prog_16_method_6_44 rfl rfl rfl rfl ?_
  refine goto (pc' := 14) d_prog_16_method_6_47 (by decide) rfl ?_
  refine iload (pc' := 16) d_prog_16_method_6_14 rfl rfl ?_
  refine iloadN (pc' := 17) d_prog_16_method_6_16 rfl rfl ?_
  refine icmpT (pc' := 50) d_prog_16_method_6_17 (by decide : ¬ ((4 : Int32) < (4 : Int32))) (by decide) rfl ?_
  refine aloadN (pc' := 51) d_prog_16_method_6_50 rfl rfl rfl ?_
  exact retA d_prog_16_method_6_51 rfl rfl rfl (by decide) (by decide) ⟨o, rfl, keepExt K, Eo, Fo⟩
set_option maxRecDepth 65536 in
set_option maxHeartbeats 40000000 in
theorem rm_named2 (l : Launch) (Z : State) (a0 : Array Value) (hw : ∀ d ∈ tables_1, d.before a0 Z = true) (hEL : EW Z a0 consts_1) (n0 : Nat) (va : Addr) (kv : ClassId) (c0 c1 c2 c3 m0 m1 m2 m3 oe : Addr) (s : Addr) (cs : List Int32) (h : Heap) (Ss : Str Z h s cs) (hE : En Z va kv c0 c1 c2 c3 m0 m1 m2 m3) (hO : Oe Z oe) (hB : Sets Z) (hcs : cs = ([99, 111, 109, 98, 115, 117, 109] : List Int32)) :
    Met l false Z consts_1 n0 (⟨"com/example/contesta/contesta/fusion/Method", "named", "(Ljava/lang/String;)Ljava/util/Optional;"⟩ : MethodName) prog_16_method_6_code 6 (some (.object "java/util/Optional")) ({ frames := 3, cells := 2, slots := 5, locals := 45 } : Room) [] #[(.ref s)] [] h (fun v h' => ∃ a, v = some (.ref a) ∧ Ext h h' ∧ Exa Z h' a "java/util/Optional" ∧ Fld Z h' a "java/util/Optional" "value" "Ljava/lang/Object;" (.ref c2)) := by
  refine Met.of_body (a0 := a0) (L0 := #[.val (.ref s), .unset, .unset, .unset, .unset, .unset]) (plainFor_of_name (by first | (simp [plainName, overriddenIn]; done) | decide +kernel)) (fun m => by first | rfl | (simp [entryFrame, mkF, argsToLocals, Value.category]; done)) hw hEL (by decide) ?_
  have K : Keep h h [] := Keep.refl _ _
  refine call (i := 83) (i2 := 82) (Wd := 0) (pc' := 3) (kStatic (i := 80) (i2 := 81) (i3 := 82) (i4 := 83) (argsL := []) (S' := []) (Wd := 0) d_prog_16_method_6_0 rfl rfl rfl rfl (by decide) rfl pd_3 rfl rfl (Nat.le_of_ble_eq_true rfl)) (rm_empty l Z a0 hw hEL n0 va kv c0 c1 c2 c3 m0 m1 m2 m3 oe _ hE hO hB) rfl rfl (by simp) (by decide) (by decide) (by decide) (by decide) rfl fun v_ h45 P46 sz47 => ?_
  obtain ⟨rfl, e48⟩ := P46
  rw [e48]
  refine at' (ce' := 0) (sl' := 0) (pc' := 3) (L' := #[.val (.ref s), .unset, .unset, .unset, .unset, .unset]) (S' := [(.ref oe)]) rfl rfl rfl rfl rfl ?_
  refine astoreN (pc' := 4) (L' := #[.val (.ref s), .val (.ref oe), .unset, .unset, .unset, .unset]) d_prog_16_method_6_3 rfl rfl rfl ?_
  refine call (i := 87) (i2 := 78) (Wd := 0) (pc' := 7) (kStatic (i := 85) (i2 := 86) (i3 := 78) (i4 := 87) (argsL := []) (S' := []) (Wd := 0) d_prog_16_method_6_4 rfl rfl rfl rfl (by decide) rfl pd_4 rfl rfl (Nat.le_of_ble_eq_true rfl)) (rm_values l Z a0 hw hEL n0 va kv c0 c1 c2 c3 m0 m1 m2 m3 oe _ hE hO hB) rfl rfl (by simp) (by decide) (by decide) (by decide) (by decide) rfl fun v_ h49 P50 sz51 => ?_
  obtain ⟨r, kc, rfl, E1, A1⟩ := P50
  replace K := K.ext E1
  replace Ss := Ss.ext E1
  refine at' (ce' := 1) (sl' := 4) (pc' := 7) (L' := #[.val (.ref s), .val (.ref oe), .unset, .unset, .unset, .unset]) (S' := [(.ref r)]) rfl rfl rfl rfl rfl ?_
  refine astoreN (pc' := 8) (L' := #[.val (.ref s), .val (.ref oe), .val (.ref r), .unset, .unset, .unset]) d_prog_16_method_6_7 rfl rfl rfl ?_
  refine aloadN (pc' := 9) d_prog_16_method_6_8 rfl rfl rfl ?_
  refine arraylength (pc' := 10) d_prog_16_method_6_9 A1 rfl ?_
  refine istoreN (pc' := 11) (L' := #[.val (.ref s), .val (.ref oe), .val (.ref r), .val (.int (4 : Int32)), .unset, .unset]) d_prog_16_method_6_10 rfl rfl ?_
  refine iconst (pc' := 12) (v := (0 : Int32)) d_prog_16_method_6_11 rfl rfl ?_
  refine istore (pc' := 14) (L' := #[.val (.ref s), .val (.ref oe), .val (.ref r), .val (.int (4 : Int32)), .val (.int (0 : Int32)), .unset]) d_prog_16_method_6_12 rfl rfl ?_
  refine iload (pc' := 16) d_prog_16_method_6_14 rfl rfl ?_
  refine iloadN (pc' := 17) d_prog_16_method_6_16 rfl rfl ?_
  refine icmpF (pc' := 20) d_prog_16_method_6_17 (by decide : (0 : Int32) < (4 : Int32)) rfl ?_
  refine aloadN (pc' := 21) d_prog_16_method_6_20 rfl rfl rfl ?_
  refine iload (pc' := 23) d_prog_16_method_6_21 rfl rfl ?_
  refine aaload (pc' := 24) (v := .ref c0) d_prog_16_method_6_23 rfl A1 ⟨by decide, by decide⟩ rfl rfl ?_
  refine astore (pc' := 26) (L' := #[.val (.ref s), .val (.ref oe), .val (.ref r), .val (.int (4 : Int32)), .val (.int (0 : Int32)), .val (.ref c0)]) d_prog_16_method_6_24 rfl rfl rfl ?_
  refine aload (pc' := 28) d_prog_16_method_6_26 rfl rfl rfl ?_
  refine old fun O0 _ => ?_
  refine getfield (i := 104) (pc' := 31) d_prog_16_method_6_28 rfl (hE.2.2.2.1.2.2.1.ext O0.2) rfl ?_
  refine aloadN (pc' := 32) d_prog_16_method_6_31 rfl rfl rfl ?_
  refine strEq (i := 6) (Wd := 0) (pc' := 35) hB (by decide +kernel) rfl (kVirt (i := 106) (i2 := 107) (i3 := 109) (i4 := 108) (C := "java/lang/String") (a := m0) (argsL := [(.ref s)]) (S' := []) (Wd := 0) d_prog_16_method_6_32 rfl rfl rfl rfl (hE.2.2.2.1.2.2.2.ext O0.2).exa (by decide) rfl pd_5 rfl rfl (Nat.le_of_ble_eq_true rfl)) (hE.2.2.2.1.2.2.2.ext O0.2) Ss (by decide) (by decide) (by decide) (by decide) rfl fun b0 q0 => ?_
  obtain rfl : b0 = 0 := by rcases q0 with ⟨r, q⟩ | ⟨r, q⟩ <;> rw [hcs] at q <;> first | exact r | exact absurd q (by decide) | exact absurd rfl q
  refine ifT (pc' := 44) d_prog_16_method_6_35 (rfl : (0 : Int32) = (0 : Int32)) (by decide) rfl ?_
  refine iinc (pc' := 47) (v := (1 : Int32)) (L' := #[.val (.ref s), .val (.ref oe), .val (.ref r), .val (.int (4 : Int32)), .val (.int (1 : Int32)), .val (.ref c0)]) d_prog_16_method_6_44 rfl rfl rfl rfl ?_
  refine goto (pc' := 14) d_prog_16_method_6_47 (by decide) rfl ?_
  refine iload (pc' := 16) d_prog_16_method_6_14 rfl rfl ?_
  refine iloadN (pc' := 17) d_prog_16_method_6_16 rfl rfl ?_
  refine icmpF (pc' := 20) d_prog_16_method_6_17 (by decide : (1 : Int32) < (4 : Int32)) rfl ?_
  refine aloadN (pc' := 21) d_prog_16_method_6_20 rfl rfl rfl ?_
  refine iload (pc' := 23) d_prog_16_method_6_21 rfl rfl ?_
  refine aaload (pc' := 24) (v := .ref c1) d_prog_16_method_6_23 rfl A1 ⟨by decide, by decide⟩ rfl rfl ?_
  refine astore (pc' := 26) (L' := #[.val (.ref s), .val (.ref oe), .val (.ref r), .val (.int (4 : Int32)), .val (.int (1 : Int32)), .val (.ref c1)]) d_prog_16_method_6_24 rfl rfl rfl ?_
  refine aload (pc' := 28) d_prog_16_method_6_26 rfl rfl rfl ?_
  refine old fun O1 _ => ?_
  refine getfield (i := 104) (pc' := 31) d_prog_16_method_6_28 rfl (hE.2.2.2.2.1.2.2.1.ext O1.2) rfl ?_
  refine aloadN (pc' := 32) d_prog_16_method_6_31 rfl rfl rfl ?_
  refine strEq (i := 6) (Wd := 0) (pc' := 35) hB (by decide +kernel) rfl (kVirt (i := 106) (i2 := 107) (i3 := 109) (i4 := 108) (C := "java/lang/String") (a := m1) (argsL := [(.ref s)]) (S' := []) (Wd := 0) d_prog_16_method_6_32 rfl rfl rfl rfl (hE.2.2.2.2.1.2.2.2.ext O1.2).exa (by decide) rfl pd_5 rfl rfl (Nat.le_of_ble_eq_true rfl)) (hE.2.2.2.2.1.2.2.2.ext O1.2) Ss (by decide) (by decide) (by decide) (by decide) rfl fun b1 q1 => ?_
  obtain rfl : b1 = 0 := by rcases q1 with ⟨r, q⟩ | ⟨r, q⟩ <;> rw [hcs] at q <;> first | exact r | exact absurd q (by decide) | exact absurd rfl q
  refine ifT (pc' := 44) d_prog_16_method_6_35 (rfl : (0 : Int32) = (0 : Int32)) (by decide) rfl ?_
  refine iinc (pc' := 47) (v := (2 : Int32)) (L' := #[.val (.ref s), .val (.ref oe), .val (.ref r), .val (.int (4 : Int32)), .val (.int (2 : Int32)), .val (.ref c1)]) d_prog_16_method_6_44 rfl rfl rfl rfl ?_
  refine goto (pc' := 14) d_prog_16_method_6_47 (by decide) rfl ?_
  refine iload (pc' := 16) d_prog_16_method_6_14 rfl rfl ?_
  refine iloadN (pc' := 17) d_prog_16_method_6_16 rfl rfl ?_
  refine icmpF (pc' := 20) d_prog_16_method_6_17 (by decide : (2 : Int32) < (4 : Int32)) rfl ?_
  refine aloadN (pc' := 21) d_prog_16_method_6_20 rfl rfl rfl ?_
  refine iload (pc' := 23) d_prog_16_method_6_21 rfl rfl ?_
  refine aaload (pc' := 24) (v := .ref c2) d_prog_16_method_6_23 rfl A1 ⟨by decide, by decide⟩ rfl rfl ?_
  refine astore (pc' := 26) (L' := #[.val (.ref s), .val (.ref oe), .val (.ref r), .val (.int (4 : Int32)), .val (.int (2 : Int32)), .val (.ref c2)]) d_prog_16_method_6_24 rfl rfl rfl ?_
  refine aload (pc' := 28) d_prog_16_method_6_26 rfl rfl rfl ?_
  refine old fun O2 _ => ?_
  refine getfield (i := 104) (pc' := 31) d_prog_16_method_6_28 rfl (hE.2.2.2.2.2.1.2.2.1.ext O2.2) rfl ?_
  refine aloadN (pc' := 32) d_prog_16_method_6_31 rfl rfl rfl ?_
  refine strEq (i := 6) (Wd := 0) (pc' := 35) hB (by decide +kernel) rfl (kVirt (i := 106) (i2 := 107) (i3 := 109) (i4 := 108) (C := "java/lang/String") (a := m2) (argsL := [(.ref s)]) (S' := []) (Wd := 0) d_prog_16_method_6_32 rfl rfl rfl rfl (hE.2.2.2.2.2.1.2.2.2.ext O2.2).exa (by decide) rfl pd_5 rfl rfl (Nat.le_of_ble_eq_true rfl)) (hE.2.2.2.2.2.1.2.2.2.ext O2.2) Ss (by decide) (by decide) (by decide) (by decide) rfl fun b2 q2 => ?_
  obtain rfl : b2 = 1 := by rcases q2 with ⟨r, q⟩ | ⟨r, q⟩ <;> rw [hcs] at q <;> first | exact r | exact absurd q (by decide) | exact absurd rfl q
  refine ifF (pc' := 38) d_prog_16_method_6_35 (by decide : ¬ ((1 : Int32) = (0 : Int32))) rfl ?_
  refine aload (pc' := 40) d_prog_16_method_6_38 rfl rfl rfl ?_
  refine call (i := 128) (i2 := 82) (Wd := 0) (pc' := 43) (kStatic (i := 126) (i2 := 127) (i3 := 82) (i4 := 128) (argsL := [(.ref c2)]) (S' := []) (Wd := 0) d_prog_16_method_6_40 rfl rfl rfl rfl (by decide) rfl pd_6 rfl rfl (Nat.le_of_ble_eq_true rfl)) (rm_of l Z a0 hw hEL n0 c2 _) rfl rfl (by simp) (by decide) (by decide) (by decide) (by decide) rfl fun v_ h52 P53 sz54 => ?_
  obtain ⟨o, rfl, X1, Eo, Fo⟩ := P53
  replace K := K.ext X1
  replace Ss := Ss.ext X1
  replace A1 := A1.ext X1
  refine at' (ce' := 2) (sl' := 5) (pc' := 43) (L' := #[.val (.ref s), .val (.ref oe), .val (.ref r), .val (.int (4 : Int32)), .val (.int (2 : Int32)), .val (.ref c2)]) (S' := [(.ref o)]) rfl rfl rfl rfl rfl ?_
  refine astoreN (pc' := 44) (L' := #[.val (.ref s), .val (.ref o), .val (.ref r), .val (.int (4 : Int32)), .val (.int (2 : Int32)), .val (.ref c2)]) d_prog_16_method_6_43 rfl rfl rfl ?_
  refine iinc (pc' := 47) (v := (3 : Int32)) (L' := #[.val (.ref s), .val (.ref o), .val (.ref r), .val (.int (4 : Int32)), .val (.int (3 : Int32)), .val (.ref c2)]) d_prog_16_method_6_44 rfl rfl rfl rfl ?_
  refine goto (pc' := 14) d_prog_16_method_6_47 (by decide) rfl ?_
  refine iload (pc' := 16) d_prog_16_method_6_14 rfl rfl ?_
  refine iloadN (pc' := 17) d_prog_16_method_6_16 rfl rfl ?_
  refine icmpF (pc' := 20) d_prog_16_method_6_17 (by decide : (3 : Int32) < (4 : Int32)) rfl ?_
  refine aloadN (pc' := 21) d_prog_16_method_6_20 rfl rfl rfl ?_
  refine iload (pc' := 23) d_prog_16_method_6_21 rfl rfl ?_
  refine aaload (pc' := 24) (v := .ref c3) d_prog_16_method_6_23 rfl A1 ⟨by decide, by decide⟩ rfl rfl ?_
  refine astore (pc' := 26) (L' := #[.val (.ref s), .val (.ref o), .val (.ref r), .val (.int (4 : Int32)), .val (.int (3 : Int32)), .val (.ref c3)]) d_prog_16_method_6_24 rfl rfl rfl ?_
  refine aload (pc' := 28) d_prog_16_method_6_26 rfl rfl rfl ?_
  refine old fun O3 _ => ?_
  refine getfield (i := 104) (pc' := 31) d_prog_16_method_6_28 rfl (hE.2.2.2.2.2.2.2.2.1.ext O3.2) rfl ?_
  refine aloadN (pc' := 32) d_prog_16_method_6_31 rfl rfl rfl ?_
  refine strEq (i := 6) (Wd := 0) (pc' := 35) hB (by decide +kernel) rfl (kVirt (i := 106) (i2 := 107) (i3 := 109) (i4 := 108) (C := "java/lang/String") (a := m3) (argsL := [(.ref s)]) (S' := []) (Wd := 0) d_prog_16_method_6_32 rfl rfl rfl rfl (hE.2.2.2.2.2.2.2.2.2.ext O3.2).exa (by decide) rfl pd_5 rfl rfl (Nat.le_of_ble_eq_true rfl)) (hE.2.2.2.2.2.2.2.2.2.ext O3.2) Ss (by decide) (by decide) (by decide) (by decide) rfl fun b3 q3 => ?_
  obtain rfl : b3 = 0 := by rcases q3 with ⟨r, q⟩ | ⟨r, q⟩ <;> rw [hcs] at q <;> first | exact r | exact absurd q (by decide) | exact absurd rfl q
  refine ifT (pc' := 44) d_prog_16_method_6_35 (rfl : (0 : Int32) = (0 : Int32)) (by decide) rfl ?_
  refine iinc (pc' := 47) (v := (4 : Int32)) (L' := #[.val (.ref s), .val (.ref o), .val (.ref r), .val (.int (4 : Int32)), .val (.int (4 : Int32)), .val (.ref c3)]) d_prog_16_method_6_44 rfl rfl rfl rfl ?_
  refine goto (pc' := 14) d_prog_16_method_6_47 (by decide) rfl ?_
  refine iload (pc' := 16) d_prog_16_method_6_14 rfl rfl ?_
  refine iloadN (pc' := 17) d_prog_16_method_6_16 rfl rfl ?_
  refine icmpT (pc' := 50) d_prog_16_method_6_17 (by decide : ¬ ((4 : Int32) < (4 : Int32))) (by decide) rfl ?_
  refine aloadN (pc' := 51) d_prog_16_method_6_50 rfl rfl rfl ?_
  exact retA d_prog_16_method_6_51 rfl rfl rfl (by decide) (by decide) ⟨o, rfl, keepExt K, Eo, Fo⟩
set_option maxRecDepth 65536 in
set_option maxHeartbeats 40000000 in
theorem rm_named3 (l : Launch) (Z : State) (a0 : Array Value) (hw : ∀ d ∈ tables_1, d.before a0 Z = true) (hEL : EW Z a0 consts_1) (n0 : Nat) (va : Addr) (kv : ClassId) (c0 c1 c2 c3 m0 m1 m2 m3 oe : Addr) (s : Addr) (cs : List Int32) (h : Heap) (Ss : Str Z h s cs) (hE : En Z va kv c0 c1 c2 c3 m0 m1 m2 m3) (hO : Oe Z oe) (hB : Sets Z) (hcs : cs = ([99, 111, 109, 98, 109, 110, 122] : List Int32)) :
    Met l false Z consts_1 n0 (⟨"com/example/contesta/contesta/fusion/Method", "named", "(Ljava/lang/String;)Ljava/util/Optional;"⟩ : MethodName) prog_16_method_6_code 6 (some (.object "java/util/Optional")) ({ frames := 3, cells := 2, slots := 5, locals := 45 } : Room) [] #[(.ref s)] [] h (fun v h' => ∃ a, v = some (.ref a) ∧ Ext h h' ∧ Exa Z h' a "java/util/Optional" ∧ Fld Z h' a "java/util/Optional" "value" "Ljava/lang/Object;" (.ref c3)) := by
  refine Met.of_body (a0 := a0) (L0 := #[.val (.ref s), .unset, .unset, .unset, .unset, .unset]) (plainFor_of_name (by first | (simp [plainName, overriddenIn]; done) | decide +kernel)) (fun m => by first | rfl | (simp [entryFrame, mkF, argsToLocals, Value.category]; done)) hw hEL (by decide) ?_
  have K : Keep h h [] := Keep.refl _ _
  refine call (i := 83) (i2 := 82) (Wd := 0) (pc' := 3) (kStatic (i := 80) (i2 := 81) (i3 := 82) (i4 := 83) (argsL := []) (S' := []) (Wd := 0) d_prog_16_method_6_0 rfl rfl rfl rfl (by decide) rfl pd_3 rfl rfl (Nat.le_of_ble_eq_true rfl)) (rm_empty l Z a0 hw hEL n0 va kv c0 c1 c2 c3 m0 m1 m2 m3 oe _ hE hO hB) rfl rfl (by simp) (by decide) (by decide) (by decide) (by decide) rfl fun v_ h55 P56 sz57 => ?_
  obtain ⟨rfl, e58⟩ := P56
  rw [e58]
  refine at' (ce' := 0) (sl' := 0) (pc' := 3) (L' := #[.val (.ref s), .unset, .unset, .unset, .unset, .unset]) (S' := [(.ref oe)]) rfl rfl rfl rfl rfl ?_
  refine astoreN (pc' := 4) (L' := #[.val (.ref s), .val (.ref oe), .unset, .unset, .unset, .unset]) d_prog_16_method_6_3 rfl rfl rfl ?_
  refine call (i := 87) (i2 := 78) (Wd := 0) (pc' := 7) (kStatic (i := 85) (i2 := 86) (i3 := 78) (i4 := 87) (argsL := []) (S' := []) (Wd := 0) d_prog_16_method_6_4 rfl rfl rfl rfl (by decide) rfl pd_4 rfl rfl (Nat.le_of_ble_eq_true rfl)) (rm_values l Z a0 hw hEL n0 va kv c0 c1 c2 c3 m0 m1 m2 m3 oe _ hE hO hB) rfl rfl (by simp) (by decide) (by decide) (by decide) (by decide) rfl fun v_ h59 P60 sz61 => ?_
  obtain ⟨r, kc, rfl, E1, A1⟩ := P60
  replace K := K.ext E1
  replace Ss := Ss.ext E1
  refine at' (ce' := 1) (sl' := 4) (pc' := 7) (L' := #[.val (.ref s), .val (.ref oe), .unset, .unset, .unset, .unset]) (S' := [(.ref r)]) rfl rfl rfl rfl rfl ?_
  refine astoreN (pc' := 8) (L' := #[.val (.ref s), .val (.ref oe), .val (.ref r), .unset, .unset, .unset]) d_prog_16_method_6_7 rfl rfl rfl ?_
  refine aloadN (pc' := 9) d_prog_16_method_6_8 rfl rfl rfl ?_
  refine arraylength (pc' := 10) d_prog_16_method_6_9 A1 rfl ?_
  refine istoreN (pc' := 11) (L' := #[.val (.ref s), .val (.ref oe), .val (.ref r), .val (.int (4 : Int32)), .unset, .unset]) d_prog_16_method_6_10 rfl rfl ?_
  refine iconst (pc' := 12) (v := (0 : Int32)) d_prog_16_method_6_11 rfl rfl ?_
  refine istore (pc' := 14) (L' := #[.val (.ref s), .val (.ref oe), .val (.ref r), .val (.int (4 : Int32)), .val (.int (0 : Int32)), .unset]) d_prog_16_method_6_12 rfl rfl ?_
  refine iload (pc' := 16) d_prog_16_method_6_14 rfl rfl ?_
  refine iloadN (pc' := 17) d_prog_16_method_6_16 rfl rfl ?_
  refine icmpF (pc' := 20) d_prog_16_method_6_17 (by decide : (0 : Int32) < (4 : Int32)) rfl ?_
  refine aloadN (pc' := 21) d_prog_16_method_6_20 rfl rfl rfl ?_
  refine iload (pc' := 23) d_prog_16_method_6_21 rfl rfl ?_
  refine aaload (pc' := 24) (v := .ref c0) d_prog_16_method_6_23 rfl A1 ⟨by decide, by decide⟩ rfl rfl ?_
  refine astore (pc' := 26) (L' := #[.val (.ref s), .val (.ref oe), .val (.ref r), .val (.int (4 : Int32)), .val (.int (0 : Int32)), .val (.ref c0)]) d_prog_16_method_6_24 rfl rfl rfl ?_
  refine aload (pc' := 28) d_prog_16_method_6_26 rfl rfl rfl ?_
  refine old fun O0 _ => ?_
  refine getfield (i := 104) (pc' := 31) d_prog_16_method_6_28 rfl (hE.2.2.2.1.2.2.1.ext O0.2) rfl ?_
  refine aloadN (pc' := 32) d_prog_16_method_6_31 rfl rfl rfl ?_
  refine strEq (i := 6) (Wd := 0) (pc' := 35) hB (by decide +kernel) rfl (kVirt (i := 106) (i2 := 107) (i3 := 109) (i4 := 108) (C := "java/lang/String") (a := m0) (argsL := [(.ref s)]) (S' := []) (Wd := 0) d_prog_16_method_6_32 rfl rfl rfl rfl (hE.2.2.2.1.2.2.2.ext O0.2).exa (by decide) rfl pd_5 rfl rfl (Nat.le_of_ble_eq_true rfl)) (hE.2.2.2.1.2.2.2.ext O0.2) Ss (by decide) (by decide) (by decide) (by decide) rfl fun b0 q0 => ?_
  obtain rfl : b0 = 0 := by rcases q0 with ⟨r, q⟩ | ⟨r, q⟩ <;> rw [hcs] at q <;> first | exact r | exact absurd q (by decide) | exact absurd rfl q
  refine ifT (pc' := 44) d_prog_16_method_6_35 (rfl : (0 : Int32) = (0 : Int32)) (by decide) rfl ?_
  refine iinc (pc' := 47) (v := (1 : Int32)) (L' := #[.val (.ref s), .val (.ref oe), .val (.ref r), .val (.int (4 : Int32)), .val (.int (1 : Int32)), .val (.ref c0)]) d_prog_16_method_6_44 rfl rfl rfl rfl ?_
  refine goto (pc' := 14) d_prog_16_method_6_47 (by decide) rfl ?_
  refine iload (pc' := 16) d_prog_16_method_6_14 rfl rfl ?_
  refine iloadN (pc' := 17) d_prog_16_method_6_16 rfl rfl ?_
  refine icmpF (pc' := 20) d_prog_16_method_6_17 (by decide : (1 : Int32) < (4 : Int32)) rfl ?_
  refine aloadN (pc' := 21) d_prog_16_method_6_20 rfl rfl rfl ?_
  refine iload (pc' := 23) d_prog_16_method_6_21 rfl rfl ?_
  refine aaload (pc' := 24) (v := .ref c1) d_prog_16_method_6_23 rfl A1 ⟨by decide, by decide⟩ rfl rfl ?_
  refine astore (pc' := 26) (L' := #[.val (.ref s), .val (.ref oe), .val (.ref r), .val (.int (4 : Int32)), .val (.int (1 : Int32)), .val (.ref c1)]) d_prog_16_method_6_24 rfl rfl rfl ?_
  refine aload (pc' := 28) d_prog_16_method_6_26 rfl rfl rfl ?_
  refine old fun O1 _ => ?_
  refine getfield (i := 104) (pc' := 31) d_prog_16_method_6_28 rfl (hE.2.2.2.2.1.2.2.1.ext O1.2) rfl ?_
  refine aloadN (pc' := 32) d_prog_16_method_6_31 rfl rfl rfl ?_
  refine strEq (i := 6) (Wd := 0) (pc' := 35) hB (by decide +kernel) rfl (kVirt (i := 106) (i2 := 107) (i3 := 109) (i4 := 108) (C := "java/lang/String") (a := m1) (argsL := [(.ref s)]) (S' := []) (Wd := 0) d_prog_16_method_6_32 rfl rfl rfl rfl (hE.2.2.2.2.1.2.2.2.ext O1.2).exa (by decide) rfl pd_5 rfl rfl (Nat.le_of_ble_eq_true rfl)) (hE.2.2.2.2.1.2.2.2.ext O1.2) Ss (by decide) (by decide) (by decide) (by decide) rfl fun b1 q1 => ?_
  obtain rfl : b1 = 0 := by rcases q1 with ⟨r, q⟩ | ⟨r, q⟩ <;> rw [hcs] at q <;> first | exact r | exact absurd q (by decide) | exact absurd rfl q
  refine ifT (pc' := 44) d_prog_16_method_6_35 (rfl : (0 : Int32) = (0 : Int32)) (by decide) rfl ?_
  refine iinc (pc' := 47) (v := (2 : Int32)) (L' := #[.val (.ref s), .val (.ref oe), .val (.ref r), .val (.int (4 : Int32)), .val (.int (2 : Int32)), .val (.ref c1)]) d_prog_16_method_6_44 rfl rfl rfl rfl ?_
  refine goto (pc' := 14) d_prog_16_method_6_47 (by decide) rfl ?_
  refine iload (pc' := 16) d_prog_16_method_6_14 rfl rfl ?_
  refine iloadN (pc' := 17) d_prog_16_method_6_16 rfl rfl ?_
  refine icmpF (pc' := 20) d_prog_16_method_6_17 (by decide : (2 : Int32) < (4 : Int32)) rfl ?_
  refine aloadN (pc' := 21) d_prog_16_method_6_20 rfl rfl rfl ?_
  refine iload (pc' := 23) d_prog_16_method_6_21 rfl rfl ?_
  refine aaload (pc' := 24) (v := .ref c2) d_prog_16_method_6_23 rfl A1 ⟨by decide, by decide⟩ rfl rfl ?_
  refine astore (pc' := 26) (L' := #[.val (.ref s), .val (.ref oe), .val (.ref r), .val (.int (4 : Int32)), .val (.int (2 : Int32)), .val (.ref c2)]) d_prog_16_method_6_24 rfl rfl rfl ?_
  refine aload (pc' := 28) d_prog_16_method_6_26 rfl rfl rfl ?_
  refine old fun O2 _ => ?_
  refine getfield (i := 104) (pc' := 31) d_prog_16_method_6_28 rfl (hE.2.2.2.2.2.1.2.2.1.ext O2.2) rfl ?_
  refine aloadN (pc' := 32) d_prog_16_method_6_31 rfl rfl rfl ?_
  refine strEq (i := 6) (Wd := 0) (pc' := 35) hB (by decide +kernel) rfl (kVirt (i := 106) (i2 := 107) (i3 := 109) (i4 := 108) (C := "java/lang/String") (a := m2) (argsL := [(.ref s)]) (S' := []) (Wd := 0) d_prog_16_method_6_32 rfl rfl rfl rfl (hE.2.2.2.2.2.1.2.2.2.ext O2.2).exa (by decide) rfl pd_5 rfl rfl (Nat.le_of_ble_eq_true rfl)) (hE.2.2.2.2.2.1.2.2.2.ext O2.2) Ss (by decide) (by decide) (by decide) (by decide) rfl fun b2 q2 => ?_
  obtain rfl : b2 = 0 := by rcases q2 with ⟨r, q⟩ | ⟨r, q⟩ <;> rw [hcs] at q <;> first | exact r | exact absurd q (by decide) | exact absurd rfl q
  refine ifT (pc' := 44) d_prog_16_method_6_35 (rfl : (0 : Int32) = (0 : Int32)) (by decide) rfl ?_
  refine iinc (pc' := 47) (v := (3 : Int32)) (L' := #[.val (.ref s), .val (.ref oe), .val (.ref r), .val (.int (4 : Int32)), .val (.int (3 : Int32)), .val (.ref c2)]) d_prog_16_method_6_44 rfl rfl rfl rfl ?_
  refine goto (pc' := 14) d_prog_16_method_6_47 (by decide) rfl ?_
  refine iload (pc' := 16) d_prog_16_method_6_14 rfl rfl ?_
  refine iloadN (pc' := 17) d_prog_16_method_6_16 rfl rfl ?_
  refine icmpF (pc' := 20) d_prog_16_method_6_17 (by decide : (3 : Int32) < (4 : Int32)) rfl ?_
  refine aloadN (pc' := 21) d_prog_16_method_6_20 rfl rfl rfl ?_
  refine iload (pc' := 23) d_prog_16_method_6_21 rfl rfl ?_
  refine aaload (pc' := 24) (v := .ref c3) d_prog_16_method_6_23 rfl A1 ⟨by decide, by decide⟩ rfl rfl ?_
  refine astore (pc' := 26) (L' := #[.val (.ref s), .val (.ref oe), .val (.ref r), .val (.int (4 : Int32)), .val (.int (3 : Int32)), .val (.ref c3)]) d_prog_16_method_6_24 rfl rfl rfl ?_
  refine aload (pc' := 28) d_prog_16_method_6_26 rfl rfl rfl ?_
  refine old fun O3 _ => ?_
  refine getfield (i := 104) (pc' := 31) d_prog_16_method_6_28 rfl (hE.2.2.2.2.2.2.2.2.1.ext O3.2) rfl ?_
  refine aloadN (pc' := 32) d_prog_16_method_6_31 rfl rfl rfl ?_
  refine strEq (i := 6) (Wd := 0) (pc' := 35) hB (by decide +kernel) rfl (kVirt (i := 106) (i2 := 107) (i3 := 109) (i4 := 108) (C := "java/lang/String") (a := m3) (argsL := [(.ref s)]) (S' := []) (Wd := 0) d_prog_16_method_6_32 rfl rfl rfl rfl (hE.2.2.2.2.2.2.2.2.2.ext O3.2).exa (by decide) rfl pd_5 rfl rfl (Nat.le_of_ble_eq_true rfl)) (hE.2.2.2.2.2.2.2.2.2.ext O3.2) Ss (by decide) (by decide) (by decide) (by decide) rfl fun b3 q3 => ?_
  obtain rfl : b3 = 1 := by rcases q3 with ⟨r, q⟩ | ⟨r, q⟩ <;> rw [hcs] at q <;> first | exact r | exact absurd q (by decide) | exact absurd rfl q
  refine ifF (pc' := 38) d_prog_16_method_6_35 (by decide : ¬ ((1 : Int32) = (0 : Int32))) rfl ?_
  refine aload (pc' := 40) d_prog_16_method_6_38 rfl rfl rfl ?_
  refine call (i := 128) (i2 := 82) (Wd := 0) (pc' := 43) (kStatic (i := 126) (i2 := 127) (i3 := 82) (i4 := 128) (argsL := [(.ref c3)]) (S' := []) (Wd := 0) d_prog_16_method_6_40 rfl rfl rfl rfl (by decide) rfl pd_6 rfl rfl (Nat.le_of_ble_eq_true rfl)) (rm_of l Z a0 hw hEL n0 c3 _) rfl rfl (by simp) (by decide) (by decide) (by decide) (by decide) rfl fun v_ h62 P63 sz64 => ?_
  obtain ⟨o, rfl, X1, Eo, Fo⟩ := P63
  replace K := K.ext X1
  replace Ss := Ss.ext X1
  replace A1 := A1.ext X1
  refine at' (ce' := 2) (sl' := 5) (pc' := 43) (L' := #[.val (.ref s), .val (.ref oe), .val (.ref r), .val (.int (4 : Int32)), .val (.int (3 : Int32)), .val (.ref c3)]) (S' := [(.ref o)]) rfl rfl rfl rfl rfl ?_
  refine astoreN (pc' := 44) (L' := #[.val (.ref s), .val (.ref o), .val (.ref r), .val (.int (4 : Int32)), .val (.int (3 : Int32)), .val (.ref c3)]) d_prog_16_method_6_43 rfl rfl rfl ?_
  refine iinc (pc' := 47) (v := (4 : Int32)) (L' := #[.val (.ref s), .val (.ref o), .val (.ref r), .val (.int (4 : Int32)), .val (.int (4 : Int32)), .val (.ref c3)]) d_prog_16_method_6_44 rfl rfl rfl rfl ?_
  refine goto (pc' := 14) d_prog_16_method_6_47 (by decide) rfl ?_
  refine iload (pc' := 16) d_prog_16_method_6_14 rfl rfl ?_
  refine iloadN (pc' := 17) d_prog_16_method_6_16 rfl rfl ?_
  refine icmpT (pc' := 50) d_prog_16_method_6_17 (by decide : ¬ ((4 : Int32) < (4 : Int32))) (by decide) rfl ?_
  refine aloadN (pc' := 51) d_prog_16_method_6_50 rfl rfl rfl ?_
  exact retA d_prog_16_method_6_51 rfl rfl rfl (by decide) (by decide) ⟨o, rfl, keepExt K, Eo, Fo⟩
set_option maxRecDepth 65536 in
set_option maxHeartbeats 40000000 in
theorem rm_namedX (l : Launch) (Z : State) (a0 : Array Value) (hw : ∀ d ∈ tables_1, d.before a0 Z = true) (hEL : EW Z a0 consts_1) (n0 : Nat) (va : Addr) (kv : ClassId) (c0 c1 c2 c3 m0 m1 m2 m3 oe : Addr) (s : Addr) (cs : List Int32) (h : Heap) (Ss : Str Z h s cs) (hE : En Z va kv c0 c1 c2 c3 m0 m1 m2 m3) (hO : Oe Z oe) (hB : Sets Z) (hcs : ¬ cs = ([114, 111, 117, 110, 100, 114, 111, 98, 105, 110] : List Int32) ∧ ¬ cs = ([114, 115, 118] : List Int32) ∧ ¬ cs = ([99, 111, 109, 98, 115, 117, 109] : List Int32) ∧ ¬ cs = ([99, 111, 109, 98, 109, 110, 122] : List Int32)) :
    Met l false Z consts_1 n0 (⟨"com/example/contesta/contesta/fusion/Method", "named", "(Ljava/lang/String;)Ljava/util/Optional;"⟩ : MethodName) prog_16_method_6_code 6 (some (.object "java/util/Optional")) ({ frames := 3, cells := 2, slots := 5, locals := 45 } : Room) [] #[(.ref s)] [] h (fun v h' => ∃ a, v = some (.ref a) ∧ Ext h h' ∧ Exa Z h' a "java/util/Optional" ∧ Fld Z h' a "java/util/Optional" "value" "Ljava/lang/Object;" .null) := by
  refine Met.of_body (a0 := a0) (L0 := #[.val (.ref s), .unset, .unset, .unset, .unset, .unset]) (plainFor_of_name (by first | (simp [plainName, overriddenIn]; done) | decide +kernel)) (fun m => by first | rfl | (simp [entryFrame, mkF, argsToLocals, Value.category]; done)) hw hEL (by decide) ?_
  have K : Keep h h [] := Keep.refl _ _
  refine call (i := 83) (i2 := 82) (Wd := 0) (pc' := 3) (kStatic (i := 80) (i2 := 81) (i3 := 82) (i4 := 83) (argsL := []) (S' := []) (Wd := 0) d_prog_16_method_6_0 rfl rfl rfl rfl (by decide) rfl pd_3 rfl rfl (Nat.le_of_ble_eq_true rfl)) (rm_empty l Z a0 hw hEL n0 va kv c0 c1 c2 c3 m0 m1 m2 m3 oe _ hE hO hB) rfl rfl (by simp) (by decide) (by decide) (by decide) (by decide) rfl fun v_ h65 P66 sz67 => ?_
  obtain ⟨rfl, e68⟩ := P66
  rw [e68]
  refine at' (ce' := 0) (sl' := 0) (pc' := 3) (L' := #[.val (.ref s), .unset, .unset, .unset, .unset, .unset]) (S' := [(.ref oe)]) rfl rfl rfl rfl rfl ?_
  refine astoreN (pc' := 4) (L' := #[.val (.ref s), .val (.ref oe), .unset, .unset, .unset, .unset]) d_prog_16_method_6_3 rfl rfl rfl ?_
  refine call (i := 87) (i2 := 78) (Wd := 0) (pc' := 7) (kStatic (i := 85) (i2 := 86) (i3 := 78) (i4 := 87) (argsL := []) (S' := []) (Wd := 0) d_prog_16_method_6_4 rfl rfl rfl rfl (by decide) rfl pd_4 rfl rfl (Nat.le_of_ble_eq_true rfl)) (rm_values l Z a0 hw hEL n0 va kv c0 c1 c2 c3 m0 m1 m2 m3 oe _ hE hO hB) rfl rfl (by simp) (by decide) (by decide) (by decide) (by decide) rfl fun v_ h69 P70 sz71 => ?_
  obtain ⟨r, kc, rfl, E1, A1⟩ := P70
  replace K := K.ext E1
  replace Ss := Ss.ext E1
  refine at' (ce' := 1) (sl' := 4) (pc' := 7) (L' := #[.val (.ref s), .val (.ref oe), .unset, .unset, .unset, .unset]) (S' := [(.ref r)]) rfl rfl rfl rfl rfl ?_
  refine astoreN (pc' := 8) (L' := #[.val (.ref s), .val (.ref oe), .val (.ref r), .unset, .unset, .unset]) d_prog_16_method_6_7 rfl rfl rfl ?_
  refine aloadN (pc' := 9) d_prog_16_method_6_8 rfl rfl rfl ?_
  refine arraylength (pc' := 10) d_prog_16_method_6_9 A1 rfl ?_
  refine istoreN (pc' := 11) (L' := #[.val (.ref s), .val (.ref oe), .val (.ref r), .val (.int (4 : Int32)), .unset, .unset]) d_prog_16_method_6_10 rfl rfl ?_
  refine iconst (pc' := 12) (v := (0 : Int32)) d_prog_16_method_6_11 rfl rfl ?_
  refine istore (pc' := 14) (L' := #[.val (.ref s), .val (.ref oe), .val (.ref r), .val (.int (4 : Int32)), .val (.int (0 : Int32)), .unset]) d_prog_16_method_6_12 rfl rfl ?_
  refine iload (pc' := 16) d_prog_16_method_6_14 rfl rfl ?_
  refine iloadN (pc' := 17) d_prog_16_method_6_16 rfl rfl ?_
  refine icmpF (pc' := 20) d_prog_16_method_6_17 (by decide : (0 : Int32) < (4 : Int32)) rfl ?_
  refine aloadN (pc' := 21) d_prog_16_method_6_20 rfl rfl rfl ?_
  refine iload (pc' := 23) d_prog_16_method_6_21 rfl rfl ?_
  refine aaload (pc' := 24) (v := .ref c0) d_prog_16_method_6_23 rfl A1 ⟨by decide, by decide⟩ rfl rfl ?_
  refine astore (pc' := 26) (L' := #[.val (.ref s), .val (.ref oe), .val (.ref r), .val (.int (4 : Int32)), .val (.int (0 : Int32)), .val (.ref c0)]) d_prog_16_method_6_24 rfl rfl rfl ?_
  refine aload (pc' := 28) d_prog_16_method_6_26 rfl rfl rfl ?_
  refine old fun O0 _ => ?_
  refine getfield (i := 104) (pc' := 31) d_prog_16_method_6_28 rfl (hE.2.2.2.1.2.2.1.ext O0.2) rfl ?_
  refine aloadN (pc' := 32) d_prog_16_method_6_31 rfl rfl rfl ?_
  refine strEq (i := 6) (Wd := 0) (pc' := 35) hB (by decide +kernel) rfl (kVirt (i := 106) (i2 := 107) (i3 := 109) (i4 := 108) (C := "java/lang/String") (a := m0) (argsL := [(.ref s)]) (S' := []) (Wd := 0) d_prog_16_method_6_32 rfl rfl rfl rfl (hE.2.2.2.1.2.2.2.ext O0.2).exa (by decide) rfl pd_5 rfl rfl (Nat.le_of_ble_eq_true rfl)) (hE.2.2.2.1.2.2.2.ext O0.2) Ss (by decide) (by decide) (by decide) (by decide) rfl fun b0 q0 => ?_
  obtain rfl : b0 = 0 := by rcases q0 with ⟨r, q⟩ | ⟨r, q⟩ <;> first | exact r | exact absurd q.symm hcs.1
  refine ifT (pc' := 44) d_prog_16_method_6_35 (rfl : (0 : Int32) = (0 : Int32)) (by decide) rfl ?_
  refine iinc (pc' := 47) (v := (1 : Int32)) (L' := #[.val (.ref s), .val (.ref oe), .val (.ref r), .val (.int (4 : Int32)), .val (.int (1 : Int32)), .val (.ref c0)]) d_prog_16_method_6_44 rfl rfl rfl rfl ?_
  refine goto (pc' := 14) d_prog_16_method_6_47 (by decide) rfl ?_
  refine iload (pc' := 16) d_prog_16_method_6_14 rfl rfl ?_
  refine iloadN (pc' := 17) d_prog_16_method_6_16 rfl rfl ?_
  refine icmpF (pc' := 20) d_prog_16_method_6_17 (by decide : (1 : Int32) < (4 : Int32)) rfl ?_
  refine aloadN (pc' := 21) d_prog_16_method_6_20 rfl rfl rfl ?_
  refine iload (pc' := 23) d_prog_16_method_6_21 rfl rfl ?_
  refine aaload (pc' := 24) (v := .ref c1) d_prog_16_method_6_23 rfl A1 ⟨by decide, by decide⟩ rfl rfl ?_
  refine astore (pc' := 26) (L' := #[.val (.ref s), .val (.ref oe), .val (.ref r), .val (.int (4 : Int32)), .val (.int (1 : Int32)), .val (.ref c1)]) d_prog_16_method_6_24 rfl rfl rfl ?_
  refine aload (pc' := 28) d_prog_16_method_6_26 rfl rfl rfl ?_
  refine old fun O1 _ => ?_
  refine getfield (i := 104) (pc' := 31) d_prog_16_method_6_28 rfl (hE.2.2.2.2.1.2.2.1.ext O1.2) rfl ?_
  refine aloadN (pc' := 32) d_prog_16_method_6_31 rfl rfl rfl ?_
  refine strEq (i := 6) (Wd := 0) (pc' := 35) hB (by decide +kernel) rfl (kVirt (i := 106) (i2 := 107) (i3 := 109) (i4 := 108) (C := "java/lang/String") (a := m1) (argsL := [(.ref s)]) (S' := []) (Wd := 0) d_prog_16_method_6_32 rfl rfl rfl rfl (hE.2.2.2.2.1.2.2.2.ext O1.2).exa (by decide) rfl pd_5 rfl rfl (Nat.le_of_ble_eq_true rfl)) (hE.2.2.2.2.1.2.2.2.ext O1.2) Ss (by decide) (by decide) (by decide) (by decide) rfl fun b1 q1 => ?_
  obtain rfl : b1 = 0 := by rcases q1 with ⟨r, q⟩ | ⟨r, q⟩ <;> first | exact r | exact absurd q.symm hcs.2.1
  refine ifT (pc' := 44) d_prog_16_method_6_35 (rfl : (0 : Int32) = (0 : Int32)) (by decide) rfl ?_
  refine iinc (pc' := 47) (v := (2 : Int32)) (L' := #[.val (.ref s), .val (.ref oe), .val (.ref r), .val (.int (4 : Int32)), .val (.int (2 : Int32)), .val (.ref c1)]) d_prog_16_method_6_44 rfl rfl rfl rfl ?_
  refine goto (pc' := 14) d_prog_16_method_6_47 (by decide) rfl ?_
  refine iload (pc' := 16) d_prog_16_method_6_14 rfl rfl ?_
  refine iloadN (pc' := 17) d_prog_16_method_6_16 rfl rfl ?_
  refine icmpF (pc' := 20) d_prog_16_method_6_17 (by decide : (2 : Int32) < (4 : Int32)) rfl ?_
  refine aloadN (pc' := 21) d_prog_16_method_6_20 rfl rfl rfl ?_
  refine iload (pc' := 23) d_prog_16_method_6_21 rfl rfl ?_
  refine aaload (pc' := 24) (v := .ref c2) d_prog_16_method_6_23 rfl A1 ⟨by decide, by decide⟩ rfl rfl ?_
  refine astore (pc' := 26) (L' := #[.val (.ref s), .val (.ref oe), .val (.ref r), .val (.int (4 : Int32)), .val (.int (2 : Int32)), .val (.ref c2)]) d_prog_16_method_6_24 rfl rfl rfl ?_
  refine aload (pc' := 28) d_prog_16_method_6_26 rfl rfl rfl ?_
  refine old fun O2 _ => ?_
  refine getfield (i := 104) (pc' := 31) d_prog_16_method_6_28 rfl (hE.2.2.2.2.2.1.2.2.1.ext O2.2) rfl ?_
  refine aloadN (pc' := 32) d_prog_16_method_6_31 rfl rfl rfl ?_
  refine strEq (i := 6) (Wd := 0) (pc' := 35) hB (by decide +kernel) rfl (kVirt (i := 106) (i2 := 107) (i3 := 109) (i4 := 108) (C := "java/lang/String") (a := m2) (argsL := [(.ref s)]) (S' := []) (Wd := 0) d_prog_16_method_6_32 rfl rfl rfl rfl (hE.2.2.2.2.2.1.2.2.2.ext O2.2).exa (by decide) rfl pd_5 rfl rfl (Nat.le_of_ble_eq_true rfl)) (hE.2.2.2.2.2.1.2.2.2.ext O2.2) Ss (by decide) (by decide) (by decide) (by decide) rfl fun b2 q2 => ?_
  obtain rfl : b2 = 0 := by rcases q2 with ⟨r, q⟩ | ⟨r, q⟩ <;> first | exact r | exact absurd q.symm hcs.2.2.1
  refine ifT (pc' := 44) d_prog_16_method_6_35 (rfl : (0 : Int32) = (0 : Int32)) (by decide) rfl ?_
  refine iinc (pc' := 47) (v := (3 : Int32)) (L' := #[.val (.ref s), .val (.ref oe), .val (.ref r), .val (.int (4 : Int32)), .val (.int (3 : Int32)), .val (.ref c2)]) d_prog_16_method_6_44 rfl rfl rfl rfl ?_
  refine goto (pc' := 14) d_prog_16_method_6_47 (by decide) rfl ?_
  refine iload (pc' := 16) d_prog_16_method_6_14 rfl rfl ?_
  refine iloadN (pc' := 17) d_prog_16_method_6_16 rfl rfl ?_
  refine icmpF (pc' := 20) d_prog_16_method_6_17 (by decide : (3 : Int32) < (4 : Int32)) rfl ?_
  refine aloadN (pc' := 21) d_prog_16_method_6_20 rfl rfl rfl ?_
  refine iload (pc' := 23) d_prog_16_method_6_21 rfl rfl ?_
  refine aaload (pc' := 24) (v := .ref c3) d_prog_16_method_6_23 rfl A1 ⟨by decide, by decide⟩ rfl rfl ?_
  refine astore (pc' := 26) (L' := #[.val (.ref s), .val (.ref oe), .val (.ref r), .val (.int (4 : Int32)), .val (.int (3 : Int32)), .val (.ref c3)]) d_prog_16_method_6_24 rfl rfl rfl ?_
  refine aload (pc' := 28) d_prog_16_method_6_26 rfl rfl rfl ?_
  refine old fun O3 _ => ?_
  refine getfield (i := 104) (pc' := 31) d_prog_16_method_6_28 rfl (hE.2.2.2.2.2.2.2.2.1.ext O3.2) rfl ?_
  refine aloadN (pc' := 32) d_prog_16_method_6_31 rfl rfl rfl ?_
  refine strEq (i := 6) (Wd := 0) (pc' := 35) hB (by decide +kernel) rfl (kVirt (i := 106) (i2 := 107) (i3 := 109) (i4 := 108) (C := "java/lang/String") (a := m3) (argsL := [(.ref s)]) (S' := []) (Wd := 0) d_prog_16_method_6_32 rfl rfl rfl rfl (hE.2.2.2.2.2.2.2.2.2.ext O3.2).exa (by decide) rfl pd_5 rfl rfl (Nat.le_of_ble_eq_true rfl)) (hE.2.2.2.2.2.2.2.2.2.ext O3.2) Ss (by decide) (by decide) (by decide) (by decide) rfl fun b3 q3 => ?_
  obtain rfl : b3 = 0 := by rcases q3 with ⟨r, q⟩ | ⟨r, q⟩ <;> first | exact r | exact absurd q.symm hcs.2.2.2
  refine ifT (pc' := 44) d_prog_16_method_6_35 (rfl : (0 : Int32) = (0 : Int32)) (by decide) rfl ?_
  refine iinc (pc' := 47) (v := (4 : Int32)) (L' := #[.val (.ref s), .val (.ref oe), .val (.ref r), .val (.int (4 : Int32)), .val (.int (4 : Int32)), .val (.ref c3)]) d_prog_16_method_6_44 rfl rfl rfl rfl ?_
  refine goto (pc' := 14) d_prog_16_method_6_47 (by decide) rfl ?_
  refine iload (pc' := 16) d_prog_16_method_6_14 rfl rfl ?_
  refine iloadN (pc' := 17) d_prog_16_method_6_16 rfl rfl ?_
  refine icmpT (pc' := 50) d_prog_16_method_6_17 (by decide : ¬ ((4 : Int32) < (4 : Int32))) (by decide) rfl ?_
  refine aloadN (pc' := 51) d_prog_16_method_6_50 rfl rfl rfl ?_
  refine old fun O _ => ?_
  exact retA d_prog_16_method_6_51 rfl rfl rfl (by decide) (by decide) ⟨oe, rfl, keepExt K, hO.2.1.ext O.2, hO.2.2.ext O.2⟩
set_option maxRecDepth 65536 in
set_option maxHeartbeats 40000000 in
theorem rm_namedN (l : Launch) (Z : State) (a0 : Array Value) (hw : ∀ d ∈ tables_1, d.before a0 Z = true) (hEL : EW Z a0 consts_1) (n0 : Nat) (va : Addr) (kv : ClassId) (c0 c1 c2 c3 m0 m1 m2 m3 oe : Addr) (h : Heap)  (hE : En Z va kv c0 c1 c2 c3 m0 m1 m2 m3) (hO : Oe Z oe) (hB : Sets Z) :
    Met l false Z consts_1 n0 (⟨"com/example/contesta/contesta/fusion/Method", "named", "(Ljava/lang/String;)Ljava/util/Optional;"⟩ : MethodName) prog_16_method_6_code 6 (some (.object "java/util/Optional")) ({ frames := 3, cells := 2, slots := 5, locals := 45 } : Room) [] #[.null] [] h (fun v h' => ∃ a, v = some (.ref a) ∧ Ext h h' ∧ Exa Z h' a "java/util/Optional" ∧ Fld Z h' a "java/util/Optional" "value" "Ljava/lang/Object;" .null) := by
  refine Met.of_body (a0 := a0) (L0 := #[.val .null, .unset, .unset, .unset, .unset, .unset]) (plainFor_of_name (by first | (simp [plainName, overriddenIn]; done) | decide +kernel)) (fun m => by first | rfl | (simp [entryFrame, mkF, argsToLocals, Value.category]; done)) hw hEL (by decide) ?_
  have K : Keep h h [] := Keep.refl _ _
  refine call (i := 83) (i2 := 82) (Wd := 0) (pc' := 3) (kStatic (i := 80) (i2 := 81) (i3 := 82) (i4 := 83) (argsL := []) (S' := []) (Wd := 0) d_prog_16_method_6_0 rfl rfl rfl rfl (by decide) rfl pd_3 rfl rfl (Nat.le_of_ble_eq_true rfl)) (rm_empty l Z a0 hw hEL n0 va kv c0 c1 c2 c3 m0 m1 m2 m3 oe _ hE hO hB) rfl rfl (by simp) (by decide) (by decide) (by decide) (by decide) rfl fun v_ h72 P73 sz74 => ?_
  obtain ⟨rfl, e75⟩ := P73
  rw [e75]
  refine at' (ce' := 0) (sl' := 0) (pc' := 3) (L' := #[.val .null, .unset, .unset, .unset, .unset, .unset]) (S' := [(.ref oe)]) rfl rfl rfl rfl rfl ?_
  refine astoreN (pc' := 4) (L' := #[.val .null, .val (.ref oe), .unset, .unset, .unset, .unset]) d_prog_16_method_6_3 rfl rfl rfl ?_
  refine call (i := 87) (i2 := 78) (Wd := 0) (pc' := 7) (kStatic (i := 85) (i2 := 86) (i3 := 78) (i4 := 87) (argsL := []) (S' := []) (Wd := 0) d_prog_16_method_6_4 rfl rfl rfl rfl (by decide) rfl pd_4 rfl rfl (Nat.le_of_ble_eq_true rfl)) (rm_values l Z a0 hw hEL n0 va kv c0 c1 c2 c3 m0 m1 m2 m3 oe _ hE hO hB) rfl rfl (by simp) (by decide) (by decide) (by decide) (by decide) rfl fun v_ h76 P77 sz78 => ?_
  obtain ⟨r, kc, rfl, E1, A1⟩ := P77
  replace K := K.ext E1
  refine at' (ce' := 1) (sl' := 4) (pc' := 7) (L' := #[.val .null, .val (.ref oe), .unset, .unset, .unset, .unset]) (S' := [(.ref r)]) rfl rfl rfl rfl rfl ?_
  refine astoreN (pc' := 8) (L' := #[.val .null, .val (.ref oe), .val (.ref r), .unset, .unset, .unset]) d_prog_16_method_6_7 rfl rfl rfl ?_
  refine aloadN (pc' := 9) d_prog_16_method_6_8 rfl rfl rfl ?_
  refine arraylength (pc' := 10) d_prog_16_method_6_9 A1 rfl ?_
  refine istoreN (pc' := 11) (L' := #[.val .null, .val (.ref oe), .val (.ref r), .val (.int (4 : Int32)), .unset, .unset]) d_prog_16_method_6_10 rfl rfl ?_
  refine iconst (pc' := 12) (v := (0 : Int32)) d_prog_16_method_6_11 rfl rfl ?_
  refine istore (pc' := 14) (L' := #[.val .null, .val (.ref oe), .val (.ref r), .val (.int (4 : Int32)), .val (.int (0 : Int32)), .unset]) d_prog_16_method_6_12 rfl rfl ?_
  refine iload (pc' := 16) d_prog_16_method_6_14 rfl rfl ?_
  refine iloadN (pc' := 17) d_prog_16_method_6_16 rfl rfl ?_
  refine icmpF (pc' := 20) d_prog_16_method_6_17 (by decide : (0 : Int32) < (4 : Int32)) rfl ?_
  refine aloadN (pc' := 21) d_prog_16_method_6_20 rfl rfl rfl ?_
  refine iload (pc' := 23) d_prog_16_method_6_21 rfl rfl ?_
  refine aaload (pc' := 24) (v := .ref c0) d_prog_16_method_6_23 rfl A1 ⟨by decide, by decide⟩ rfl rfl ?_
  refine astore (pc' := 26) (L' := #[.val .null, .val (.ref oe), .val (.ref r), .val (.int (4 : Int32)), .val (.int (0 : Int32)), .val (.ref c0)]) d_prog_16_method_6_24 rfl rfl rfl ?_
  refine aload (pc' := 28) d_prog_16_method_6_26 rfl rfl rfl ?_
  refine old fun O0 _ => ?_
  refine getfield (i := 104) (pc' := 31) d_prog_16_method_6_28 rfl (hE.2.2.2.1.2.2.1.ext O0.2) rfl ?_
  refine aloadN (pc' := 32) d_prog_16_method_6_31 rfl rfl rfl ?_
  refine call (i := 110) (i2 := 5) (Wd := 0) (pc' := 35) (kVirt (i := 106) (i2 := 107) (i3 := 109) (i4 := 108) (C := "java/lang/String") (a := m0) (argsL := [.null]) (S' := []) (Wd := 0) d_prog_16_method_6_32 rfl rfl rfl rfl (hE.2.2.2.1.2.2.2.ext O0.2).exa (by decide) rfl pd_5 rfl rfl (Nat.le_of_ble_eq_true rfl)) (rm_eqN l Z a0 hw hEL n0 m0 _) rfl rfl (by simp) (by decide) (by decide) (by decide) (by decide) rfl fun v_ h79 P80 sz81 => ?_
  obtain ⟨rfl, e82⟩ := P80
  rw [e82]
  refine at' (ce' := 1) (sl' := 4) (pc' := 35) (L' := #[.val .null, .val (.ref oe), .val (.ref r), .val (.int (4 : Int32)), .val (.int (0 : Int32)), .val (.ref c0)]) (S' := [(.int (0 : Int32))]) rfl rfl rfl rfl rfl ?_
  refine ifT (pc' := 44) d_prog_16_method_6_35 (rfl : (0 : Int32) = (0 : Int32)) (by decide) rfl ?_
  refine iinc (pc' := 47) (v := (1 : Int32)) (L' := #[.val .null, .val (.ref oe), .val (.ref r), .val (.int (4 : Int32)), .val (.int (1 : Int32)), .val (.ref c0)]) d_prog_16_method_6_44 rfl rfl rfl rfl ?_
  refine goto (pc' := 14) d_prog_16_method_6_47 (by decide) rfl ?_
  refine iload (pc' := 16) d_prog_16_method_6_14 rfl rfl ?_
  refine iloadN (pc' := 17) d_prog_16_method_6_16 rfl rfl ?_
  refine icmpF (pc' := 20) d_prog_16_method_6_17 (by decide : (1 : Int32) < (4 : Int32)) rfl ?_
  refine aloadN (pc' := 21) d_prog_16_method_6_20 rfl rfl rfl ?_
  refine iload (pc' := 23) d_prog_16_method_6_21 rfl rfl ?_
  refine aaload (pc' := 24) (v := .ref c1) d_prog_16_method_6_23 rfl A1 ⟨by decide, by decide⟩ rfl rfl ?_
  refine astore (pc' := 26) (L' := #[.val .null, .val (.ref oe), .val (.ref r), .val (.int (4 : Int32)), .val (.int (1 : Int32)), .val (.ref c1)]) d_prog_16_method_6_24 rfl rfl rfl ?_
  refine aload (pc' := 28) d_prog_16_method_6_26 rfl rfl rfl ?_
  refine old fun O1 _ => ?_
  refine getfield (i := 104) (pc' := 31) d_prog_16_method_6_28 rfl (hE.2.2.2.2.1.2.2.1.ext O1.2) rfl ?_
  refine aloadN (pc' := 32) d_prog_16_method_6_31 rfl rfl rfl ?_
  refine call (i := 110) (i2 := 5) (Wd := 0) (pc' := 35) (kVirt (i := 106) (i2 := 107) (i3 := 109) (i4 := 108) (C := "java/lang/String") (a := m1) (argsL := [.null]) (S' := []) (Wd := 0) d_prog_16_method_6_32 rfl rfl rfl rfl (hE.2.2.2.2.1.2.2.2.ext O1.2).exa (by decide) rfl pd_5 rfl rfl (Nat.le_of_ble_eq_true rfl)) (rm_eqN l Z a0 hw hEL n0 m1 _) rfl rfl (by simp) (by decide) (by decide) (by decide) (by decide) rfl fun v_ h83 P84 sz85 => ?_
  obtain ⟨rfl, e86⟩ := P84
  rw [e86]
  refine at' (ce' := 1) (sl' := 4) (pc' := 35) (L' := #[.val .null, .val (.ref oe), .val (.ref r), .val (.int (4 : Int32)), .val (.int (1 : Int32)), .val (.ref c1)]) (S' := [(.int (0 : Int32))]) rfl rfl rfl rfl rfl ?_
  refine ifT (pc' := 44) d_prog_16_method_6_35 (rfl : (0 : Int32) = (0 : Int32)) (by decide) rfl ?_
  refine iinc (pc' := 47) (v := (2 : Int32)) (L' := #[.val .null, .val (.ref oe), .val (.ref r), .val (.int (4 : Int32)), .val (.int (2 : Int32)), .val (.ref c1)]) d_prog_16_method_6_44 rfl rfl rfl rfl ?_
  refine goto (pc' := 14) d_prog_16_method_6_47 (by decide) rfl ?_
  refine iload (pc' := 16) d_prog_16_method_6_14 rfl rfl ?_
  refine iloadN (pc' := 17) d_prog_16_method_6_16 rfl rfl ?_
  refine icmpF (pc' := 20) d_prog_16_method_6_17 (by decide : (2 : Int32) < (4 : Int32)) rfl ?_
  refine aloadN (pc' := 21) d_prog_16_method_6_20 rfl rfl rfl ?_
  refine iload (pc' := 23) d_prog_16_method_6_21 rfl rfl ?_
  refine aaload (pc' := 24) (v := .ref c2) d_prog_16_method_6_23 rfl A1 ⟨by decide, by decide⟩ rfl rfl ?_
  refine astore (pc' := 26) (L' := #[.val .null, .val (.ref oe), .val (.ref r), .val (.int (4 : Int32)), .val (.int (2 : Int32)), .val (.ref c2)]) d_prog_16_method_6_24 rfl rfl rfl ?_
  refine aload (pc' := 28) d_prog_16_method_6_26 rfl rfl rfl ?_
  refine old fun O2 _ => ?_
  refine getfield (i := 104) (pc' := 31) d_prog_16_method_6_28 rfl (hE.2.2.2.2.2.1.2.2.1.ext O2.2) rfl ?_
  refine aloadN (pc' := 32) d_prog_16_method_6_31 rfl rfl rfl ?_
  refine call (i := 110) (i2 := 5) (Wd := 0) (pc' := 35) (kVirt (i := 106) (i2 := 107) (i3 := 109) (i4 := 108) (C := "java/lang/String") (a := m2) (argsL := [.null]) (S' := []) (Wd := 0) d_prog_16_method_6_32 rfl rfl rfl rfl (hE.2.2.2.2.2.1.2.2.2.ext O2.2).exa (by decide) rfl pd_5 rfl rfl (Nat.le_of_ble_eq_true rfl)) (rm_eqN l Z a0 hw hEL n0 m2 _) rfl rfl (by simp) (by decide) (by decide) (by decide) (by decide) rfl fun v_ h87 P88 sz89 => ?_
  obtain ⟨rfl, e90⟩ := P88
  rw [e90]
  refine at' (ce' := 1) (sl' := 4) (pc' := 35) (L' := #[.val .null, .val (.ref oe), .val (.ref r), .val (.int (4 : Int32)), .val (.int (2 : Int32)), .val (.ref c2)]) (S' := [(.int (0 : Int32))]) rfl rfl rfl rfl rfl ?_
  refine ifT (pc' := 44) d_prog_16_method_6_35 (rfl : (0 : Int32) = (0 : Int32)) (by decide) rfl ?_
  refine iinc (pc' := 47) (v := (3 : Int32)) (L' := #[.val .null, .val (.ref oe), .val (.ref r), .val (.int (4 : Int32)), .val (.int (3 : Int32)), .val (.ref c2)]) d_prog_16_method_6_44 rfl rfl rfl rfl ?_
  refine goto (pc' := 14) d_prog_16_method_6_47 (by decide) rfl ?_
  refine iload (pc' := 16) d_prog_16_method_6_14 rfl rfl ?_
  refine iloadN (pc' := 17) d_prog_16_method_6_16 rfl rfl ?_
  refine icmpF (pc' := 20) d_prog_16_method_6_17 (by decide : (3 : Int32) < (4 : Int32)) rfl ?_
  refine aloadN (pc' := 21) d_prog_16_method_6_20 rfl rfl rfl ?_
  refine iload (pc' := 23) d_prog_16_method_6_21 rfl rfl ?_
  refine aaload (pc' := 24) (v := .ref c3) d_prog_16_method_6_23 rfl A1 ⟨by decide, by decide⟩ rfl rfl ?_
  refine astore (pc' := 26) (L' := #[.val .null, .val (.ref oe), .val (.ref r), .val (.int (4 : Int32)), .val (.int (3 : Int32)), .val (.ref c3)]) d_prog_16_method_6_24 rfl rfl rfl ?_
  refine aload (pc' := 28) d_prog_16_method_6_26 rfl rfl rfl ?_
  refine old fun O3 _ => ?_
  refine getfield (i := 104) (pc' := 31) d_prog_16_method_6_28 rfl (hE.2.2.2.2.2.2.2.2.1.ext O3.2) rfl ?_
  refine aloadN (pc' := 32) d_prog_16_method_6_31 rfl rfl rfl ?_
  refine call (i := 110) (i2 := 5) (Wd := 0) (pc' := 35) (kVirt (i := 106) (i2 := 107) (i3 := 109) (i4 := 108) (C := "java/lang/String") (a := m3) (argsL := [.null]) (S' := []) (Wd := 0) d_prog_16_method_6_32 rfl rfl rfl rfl (hE.2.2.2.2.2.2.2.2.2.ext O3.2).exa (by decide) rfl pd_5 rfl rfl (Nat.le_of_ble_eq_true rfl)) (rm_eqN l Z a0 hw hEL n0 m3 _) rfl rfl (by simp) (by decide) (by decide) (by decide) (by decide) rfl fun v_ h91 P92 sz93 => ?_
  obtain ⟨rfl, e94⟩ := P92
  rw [e94]
  refine at' (ce' := 1) (sl' := 4) (pc' := 35) (L' := #[.val .null, .val (.ref oe), .val (.ref r), .val (.int (4 : Int32)), .val (.int (3 : Int32)), .val (.ref c3)]) (S' := [(.int (0 : Int32))]) rfl rfl rfl rfl rfl ?_
  refine ifT (pc' := 44) d_prog_16_method_6_35 (rfl : (0 : Int32) = (0 : Int32)) (by decide) rfl ?_
  refine iinc (pc' := 47) (v := (4 : Int32)) (L' := #[.val .null, .val (.ref oe), .val (.ref r), .val (.int (4 : Int32)), .val (.int (4 : Int32)), .val (.ref c3)]) d_prog_16_method_6_44 rfl rfl rfl rfl ?_
  refine goto (pc' := 14) d_prog_16_method_6_47 (by decide) rfl ?_
  refine iload (pc' := 16) d_prog_16_method_6_14 rfl rfl ?_
  refine iloadN (pc' := 17) d_prog_16_method_6_16 rfl rfl ?_
  refine icmpT (pc' := 50) d_prog_16_method_6_17 (by decide : ¬ ((4 : Int32) < (4 : Int32))) (by decide) rfl ?_
  refine aloadN (pc' := 51) d_prog_16_method_6_50 rfl rfl rfl ?_
  refine old fun O _ => ?_
  exact retA d_prog_16_method_6_51 rfl rfl rfl (by decide) (by decide) ⟨oe, rfl, keepExt K, hO.2.1.ext O.2, hO.2.2.ext O.2⟩
set_option maxRecDepth 65536 in
set_option maxHeartbeats 40000000 in
theorem rm_base (l : Launch) (Z : State) (a0 : Array Value) (hw : ∀ d ∈ tables_1, d.before a0 Z = true) (hEL : EW Z a0 consts_1) (n0 : Nat) (k : Int32) (h : Heap)   :
    Met l false Z consts_1 n0 (⟨"com/example/contesta/contesta/fusion/MethodNamedPinLaw", "base", "(I)Ljava/lang/String;"⟩ : MethodName) method_3_code 1 (some (.object "java/lang/String")) ({ frames := 0, cells := 2, slots := 44, locals := 0 } : Room) [] #[(.int k)] [] h (fun v h' => ∃ r cb, v = some (.ref r) ∧ Ext h h' ∧ Str Z h' r cb ∧ cb.length < 12) := by
  refine Met.of_body (a0 := a0) (L0 := #[.val (.int k)]) (plainFor_of_name (by first | (simp [plainName, overriddenIn]; done) | decide +kernel)) (fun m => by first | rfl | (simp [entryFrame, mkF, argsToLocals, Value.category]; done)) hw hEL (by decide) ?_
  have K : Keep h h [] := Keep.refl _ _
  refine iloadN (pc' := 1) d_method_3_0 rfl rfl ?_
  refine ifc (pc' := 7) (pcF := 4) d_method_3_1 (by decide) rfl rfl (fun (q0 : ¬ (k = (0 : Int32))) => ?_) (fun (q0 : k = (0 : Int32)) => ?_)
  · skip
    refine iloadN (pc' := 8) d_method_3_7 rfl rfl ?_
    refine iconst (pc' := 9) (v := (1 : Int32)) d_method_3_8 rfl rfl ?_
    refine icmp (pc' := 15) (pcF := 12) d_method_3_9 (by decide) rfl rfl (fun (q1 : ¬ (k = (1 : Int32))) => ?_) (fun (q1 : k = (1 : Int32)) => ?_)
    · skip
      refine iloadN (pc' := 16) d_method_3_15 rfl rfl ?_
      refine iconst (pc' := 17) (v := (2 : Int32)) d_method_3_16 rfl rfl ?_
      refine icmp (pc' := 23) (pcF := 20) d_method_3_17 (by decide) rfl rfl (fun (q2 : ¬ (k = (2 : Int32))) => ?_) (fun (q2 : k = (2 : Int32)) => ?_)
      · skip
        refine iloadN (pc' := 24) d_method_3_23 rfl rfl ?_
        refine iconst (pc' := 25) (v := (3 : Int32)) d_method_3_24 rfl rfl ?_
        refine icmp (pc' := 31) (pcF := 28) d_method_3_25 (by decide) rfl rfl (fun (q3 : ¬ (k = (3 : Int32))) => ?_) (fun (q3 : k = (3 : Int32)) => ?_)
        · skip
          refine ldcText (i := 144) (n := 0) (cs := ([] : List Int32)) (pc' := 33) d_method_3_31 rfl (by decide +kernel) (by decide) rfl ⟨by simp, by simp [lat]⟩ (by simp) (by decide) (by simp) (by decide) (by decide) (by decide) rfl fun he tae TEe Ste TNe => ?_
          replace K := K.ext TEe
          refine at' (ce' := 2) (sl' := 4) (pc' := 33) (L' := #[.val (.int k)]) (S' := [(.ref tae)]) rfl rfl rfl rfl rfl ?_
          exact retA d_method_3_33 rfl rfl rfl (by decide) (by decide) ⟨tae, _, rfl, keepExt K, Ste, by decide⟩
        · skip
          refine ldcText (i := 125) (n := 28) (cs := ([99, 111, 109, 98, 109, 110, 122] : List Int32)) (pc' := 30) d_method_3_28 rfl (by decide +kernel) (by decide) rfl ⟨by decide +kernel, by decide +kernel⟩ (by decide) (by decide) (by decide +kernel) (by decide) (by decide) (by decide) rfl fun hb3 tab3 TEb3 Stb3 TNb3 => ?_
          replace K := K.ext TEb3
          refine at' (ce' := 2) (sl' := 32) (pc' := 30) (L' := #[.val (.int k)]) (S' := [(.ref tab3)]) rfl rfl rfl rfl rfl ?_
          exact retA d_method_3_30 rfl rfl rfl (by decide) (by decide) ⟨tab3, _, rfl, keepExt K, Stb3, by decide⟩
      · skip
        refine ldcText (i := 124) (n := 28) (cs := ([99, 111, 109, 98, 115, 117, 109] : List Int32)) (pc' := 22) d_method_3_20 rfl (by decide +kernel) (by decide) rfl ⟨by decide +kernel, by decide +kernel⟩ (by decide) (by decide) (by decide +kernel) (by decide) (by decide) (by decide) rfl fun hb2 tab2 TEb2 Stb2 TNb2 => ?_
        replace K := K.ext TEb2
        refine at' (ce' := 2) (sl' := 32) (pc' := 22) (L' := #[.val (.int k)]) (S' := [(.ref tab2)]) rfl rfl rfl rfl rfl ?_
        exact retA d_method_3_22 rfl rfl rfl (by decide) (by decide) ⟨tab2, _, rfl, keepExt K, Stb2, by decide⟩
    · skip
      refine ldcText (i := 123) (n := 12) (cs := ([114, 115, 118] : List Int32)) (pc' := 14) d_method_3_12 rfl (by decide +kernel) (by decide) rfl ⟨by decide +kernel, by decide +kernel⟩ (by decide) (by decide) (by decide +kernel) (by decide) (by decide) (by decide) rfl fun hb1 tab1 TEb1 Stb1 TNb1 => ?_
      replace K := K.ext TEb1
      refine at' (ce' := 2) (sl' := 16) (pc' := 14) (L' := #[.val (.int k)]) (S' := [(.ref tab1)]) rfl rfl rfl rfl rfl ?_
      exact retA d_method_3_14 rfl rfl rfl (by decide) (by decide) ⟨tab1, _, rfl, keepExt K, Stb1, by decide⟩
  · skip
    refine ldcText (i := 4) (n := 40) (cs := ([114, 111, 117, 110, 100, 114, 111, 98, 105, 110] : List Int32)) (pc' := 6) d_method_3_4 rfl (by decide +kernel) (by decide) rfl ⟨by decide +kernel, by decide +kernel⟩ (by decide) (by decide) (by decide +kernel) (by decide) (by decide) (by decide) rfl fun hb0 tab0 TEb0 Stb0 TNb0 => ?_
    replace K := K.ext TEb0
    refine at' (ce' := 2) (sl' := 44) (pc' := 6) (L' := #[.val (.int k)]) (S' := [(.ref tab0)]) rfl rfl rfl rfl rfl ?_
    exact retA d_method_3_6 rfl rfl rfl (by decide) (by decide) ⟨tab0, _, rfl, keepExt K, Stb0, by decide⟩
set_option maxRecDepth 65536 in
set_option maxHeartbeats 40000000 in
theorem rm_at (l : Launch) (Z : State) (a0 : Array Value) (hw : ∀ d ∈ tables_1, d.before a0 Z = true) (hEL : EW Z a0 consts_1) (n0 : Nat) (x : Addr) (cb : List Int32) (i p q : Int32) (k : Nat) (h : Heap) (Sx : Str Z h x cb) (hB : Sets Z) (hik : i = Int32.ofNat k) (hk : k < 12) (hcb : cb.length < 12) :
    Met l false Z consts_1 n0 (⟨"com/example/contesta/contesta/fusion/MethodNamedPinLaw", "at", "(Ljava/lang/String;III)C"⟩ : MethodName) method_4_code 4 (some .char) ({ frames := 4, cells := 0, slots := 0, locals := 54 } : Room) [] #[(.ref x), (.int i), (.int p), (.int q)] [] h (fun v h' => (∃ c, v = some (.int c) ∧ ok c) ∧ h' = h) := by
  refine Met.of_body (a0 := a0) (L0 := #[.val (.ref x), .val (.int i), .val (.int p), .val (.int q)]) (plainFor_of_name (by first | (simp [plainName, overriddenIn]; done) | decide +kernel)) (fun m => by first | rfl | (simp [entryFrame, mkF, argsToLocals, Value.category]; done)) hw hEL (by decide) ?_
  refine iloadN (pc' := 1) d_method_4_0 rfl rfl ?_
  refine aloadN (pc' := 2) d_method_4_1 rfl rfl rfl ?_
  refine strLen (i := 6) (Wd := 1) (cs := cb) (pc' := 5) hB (by decide +kernel) rfl (kVirt (i := 12) (i2 := 13) (i3 := 15) (i4 := 14) (C := "java/lang/String") (a := x) (argsL := []) (S' := [(.int i)]) (Wd := 1) d_method_4_2 rfl rfl rfl rfl Sx.exa (by decide) rfl pd_7 rfl rfl (Nat.le_of_ble_eq_true rfl)) Sx (by decide) (by decide) (by decide) (by decide) rfl ?_
  refine at' (ce' := 0) (sl' := 0) (pc' := 5) (L' := #[.val (.ref x), .val (.int i), .val (.int p), .val (.int q)]) (S' := [(.int (Int32.ofNat (cb).length)), (.int i)]) rfl rfl rfl rfl rfl ?_
  refine icmp (pc' := 14) (pcF := 8) d_method_4_5 (by decide) rfl rfl (fun (q0 : ¬ (i < (Int32.ofNat (cb).length))) => ?_) (fun (q0 : i < (Int32.ofNat (cb).length)) => ?_)
  · skip
    refine iloadN (pc' := 15) d_method_4_14 rfl rfl ?_
    refine iloadN (pc' := 16) d_method_4_15 rfl rfl ?_
    refine iloadN (pc' := 17) d_method_4_16 rfl rfl ?_
    refine imul (pc' := 18) d_method_4_17 rfl ?_
    refine iadd (pc' := 19) d_method_4_18 rfl ?_
    refine sipush (pc' := 22) (v := (255 : Int32)) d_method_4_19 rfl rfl ?_
    refine iand (pc' := 23) d_method_4_22 rfl ?_
    refine i2c (pc' := 24) d_method_4_23 rfl ?_
    rw [own_i2c (own_ok _)]
    exact retI d_method_4_24 rfl (Or.inr (Or.inr (Or.inr (Or.inl rfl)))) (congrArg Value.int (own_nar (own_ok _))) (by decide) (by decide) ⟨⟨_, rfl, own_ok _⟩, rfl⟩
  · skip
    rw [hik] at q0
    have q1 := (own_lt k hk _ hcb).mp q0
    refine aloadN (pc' := 9) d_method_4_8 rfl rfl rfl ?_
    refine iloadN (pc' := 10) d_method_4_9 rfl rfl ?_
    refine strAt (i := 6) (Wd := 0) (j := k) (c := cb.getD k 0) (pc' := 13) hB (by decide +kernel) rfl (kVirt (i := 29) (i2 := 30) (i3 := 32) (i4 := 31) (C := "java/lang/String") (a := x) (argsL := [(.int i)]) (S' := []) (Wd := 0) d_method_4_10 rfl rfl rfl rfl Sx.exa (by decide) rfl pd_8 rfl rfl (Nat.le_of_ble_eq_true rfl)) Sx q1 hik rfl (by decide) (by decide) (by decide) (by decide) rfl ?_
    refine at' (ce' := 0) (sl' := 0) (pc' := 13) (L' := #[.val (.ref x), .val (.int i), .val (.int p), .val (.int q)]) (S' := [(.int (cb.getD k 0))]) rfl rfl rfl rfl rfl ?_
    exact retI d_method_4_13 rfl (Or.inr (Or.inr (Or.inr (Or.inl rfl)))) (congrArg Value.int (own_nar (ok_get Sx.2.2.2.1 q1))) (by decide) (by decide) ⟨⟨_, rfl, ok_get Sx.2.2.2.1 q1⟩, rfl⟩
set_option maxRecDepth 65536 in
set_option maxHeartbeats 40000000 in
theorem rm_cut (l : Launch) (Z : State) (a0 : Array Value) (hw : ∀ d ∈ tables_1, d.before a0 Z = true) (hEL : EW Z a0 consts_1) (n0 : Nat) (b : Addr) (kb : ClassId) (d0 d1 d2 d3 d4 d5 d6 d7 d8 d9 d10 : Int32) (n : Int32) (h : Heap) (Ab : Arv Z h b kb .char (11 : Int32) [(.int d0), (.int d1), (.int d2), (.int d3), (.int d4), (.int d5), (.int d6), (.int d7), (.int d8), (.int d9), (.int d10)] (.int (0 : Int32))) (hn : t12 n) (hd0 : ok d0) (hd1 : ok d1) (hd2 : ok d2) (hd3 : ok d3) (hd4 : ok d4) (hd5 : ok d5) (hd6 : ok d6) (hd7 : ok d7) (hd8 : ok d8) (hd9 : ok d9) (hd10 : ok d10) :
    Met l false Z consts_1 n0 (⟨"com/example/contesta/contesta/fusion/MethodNamedPinLaw", "cut", "([CI)[C"⟩ : MethodName) method_5_code 2 (some (.array .char)) ({ frames := 0, cells := 1, slots := 11, locals := 0 } : Room) [] #[(.ref b), (.int n)] [] h (fun v h' => ∃ (r : Addr) (kc : ClassId) (es : List Int32), v = some (.ref r) ∧ Ext h h' ∧ es.length < 12 ∧ (∀ c ∈ es, ¬ c < 0 ∧ ¬ (255 : Int32) < c) ∧ Arv Z h' r kc .char (Int32.ofNat es.length) (es.map Value.int) (.int (0 : Int32))) := by
  refine Met.of_body (a0 := a0) (L0 := #[.val (.ref b), .val (.int n)]) (plainFor_of_name (by first | (simp [plainName, overriddenIn]; done) | decide +kernel)) (fun m => by first | rfl | (simp [entryFrame, mkF, argsToLocals, Value.category]; done)) hw hEL (by decide) ?_
  have K : Keep h h [] := Keep.refl _ _
  unfold t12 at hn
  rcases hn with rfl | rfl | rfl | rfl | rfl | rfl | rfl | rfl | rfl | rfl | rfl | rfl
  · skip
    refine at' (ce' := 0) (sl' := 0) (pc' := 0) (L' := #[.val (.ref b), .val (.int (0 : Int32))]) (S' := []) rfl rfl rfl rfl rfl ?_
    refine iloadN (pc' := 1) d_method_5_0 rfl rfl ?_
    refine ifF (pc' := 4) d_method_5_1 (by decide : (0 : Int32) = (0 : Int32)) rfl ?_
    refine iconst (pc' := 5) (v := (0 : Int32)) d_method_5_4 rfl rfl ?_
    refine newarray (i := 25) (cap := 0) (ty := .char) (pc' := 7) d_method_5_5 rfl rfl (by decide) (by decide) (by decide) (by decide) (by decide) rfl fun h95 a96 kc100 g97 E98 V99 => ?_
    have sz_a96 : h.size ≤ a96 := by rw [g97]; exact K.1
    have ne_b_a96 : b ≠ a96 := Nat.ne_of_lt (by rw [g97]; exact Ab.lt)
    replace K := K.ext E98
    replace Ab := Ab.ext E98
    replace V99 : Arv Z h95 a96 kc100 .char (0 : Int32) [] (.int (0 : Int32)) := V99.pad (pad_rep [] (.int (0 : Int32)) 0)
    have q := V99
    exact retA d_method_5_7 rfl rfl rfl (by decide) (by decide) ⟨a96, kc100, ([] : List Int32), rfl, keepExt K, by show 0 < 12; decide, by simp, q⟩
  · skip
    refine at' (ce' := 0) (sl' := 0) (pc' := 0) (L' := #[.val (.ref b), .val (.int (1 : Int32))]) (S' := []) rfl rfl rfl rfl rfl ?_
    refine iloadN (pc' := 1) d_method_5_0 rfl rfl ?_
    refine ifT (pc' := 8) d_method_5_1 (by decide : ¬ ((1 : Int32) = (0 : Int32))) (by decide) rfl ?_
    refine iloadN (pc' := 9) d_method_5_8 rfl rfl ?_
    refine iconst (pc' := 10) (v := (1 : Int32)) d_method_5_9 rfl rfl ?_
    refine icmpF (pc' := 13) d_method_5_10 (by decide : (1 : Int32) = (1 : Int32)) rfl ?_
    refine iconst (pc' := 14) (v := (1 : Int32)) d_method_5_13 rfl rfl ?_
    refine newarray (i := 25) (cap := 1) (ty := .char) (pc' := 16) d_method_5_14 rfl rfl (by decide) (by decide) (by decide) (by decide) (by decide) rfl fun h101 a102 kc106 g103 E104 V105 => ?_
    have sz_a102 : h.size ≤ a102 := by rw [g103]; exact K.1
    have ne_b_a102 : b ≠ a102 := Nat.ne_of_lt (by rw [g103]; exact Ab.lt)
    replace K := K.ext E104
    replace Ab := Ab.ext E104
    replace V105 : Arv Z h101 a102 kc106 .char (1 : Int32) [(.int (0 : Int32))] (.int (0 : Int32)) := V105.pad (pad_rep [] (.int (0 : Int32)) 1)
    refine dup (pc' := 17) d_method_5_16 rfl rfl ?_
    refine iconst (pc' := 18) (v := (0 : Int32)) d_method_5_17 rfl rfl ?_
    refine aloadN (pc' := 19) d_method_5_18 rfl rfl rfl ?_
    refine iconst (pc' := 20) (v := (0 : Int32)) d_method_5_19 rfl rfl ?_
    refine caload (v := .int d0) (pc' := 21) d_method_5_20 Ab ⟨by decide, by decide⟩ rfl rfl ?_
    refine castore (pc' := 22) d_method_5_21 V105 ⟨by decide, by decide⟩ (by simp) (Nat.le_of_ble_eq_true rfl) rfl fun h107 W108 V109 => ?_
    replace K := K.wr W108 (Or.inr sz_a102)
    replace Ab := Ab.other W108 ne_b_a102
    replace V105 : Arv Z h107 a102 kc106 .char (1 : Int32) [(.int (nar .char d0))] (.int (0 : Int32)) := V109
    have q := V105
    rw [own_nar hd0] at q
    exact retA d_method_5_22 rfl rfl rfl (by decide) (by decide) ⟨a102, kc106, ([d0] : List Int32), rfl, keepExt K, by show 1 < 12; decide, by intro c hc; simp only [List.mem_cons, List.not_mem_nil, or_false] at hc; rcases hc with rfl <;> assumption, q⟩
  · skip
    refine at' (ce' := 0) (sl' := 0) (pc' := 0) (L' := #[.val (.ref b), .val (.int (2 : Int32))]) (S' := []) rfl rfl rfl rfl rfl ?_
    refine iloadN (pc' := 1) d_method_5_0 rfl rfl ?_
    refine ifT (pc' := 8) d_method_5_1 (by decide : ¬ ((2 : Int32) = (0 : Int32))) (by decide) rfl ?_
    refine iloadN (pc' := 9) d_method_5_8 rfl rfl ?_
    refine iconst (pc' := 10) (v := (1 : Int32)) d_method_5_9 rfl rfl ?_
    refine icmpT (pc' := 23) d_method_5_10 (by decide : ¬ ((2 : Int32) = (1 : Int32))) (by decide) rfl ?_
    refine iloadN (pc' := 24) d_method_5_23 rfl rfl ?_
    refine iconst (pc' := 25) (v := (2 : Int32)) d_method_5_24 rfl rfl ?_
    refine icmpF (pc' := 28) d_method_5_25 (by decide : (2 : Int32) = (2 : Int32)) rfl ?_
    refine iconst (pc' := 29) (v := (2 : Int32)) d_method_5_28 rfl rfl ?_
    refine newarray (i := 25) (cap := 2) (ty := .char) (pc' := 31) d_method_5_29 rfl rfl (by decide) (by decide) (by decide) (by decide) (by decide) rfl fun h110 a111 kc115 g112 E113 V114 => ?_
    have sz_a111 : h.size ≤ a111 := by rw [g112]; exact K.1
    have ne_b_a111 : b ≠ a111 := Nat.ne_of_lt (by rw [g112]; exact Ab.lt)
    replace K := K.ext E113
    replace Ab := Ab.ext E113
    replace V114 : Arv Z h110 a111 kc115 .char (2 : Int32) [(.int (0 : Int32)), (.int (0 : Int32))] (.int (0 : Int32)) := V114.pad (pad_rep [] (.int (0 : Int32)) 2)
    refine dup (pc' := 32) d_method_5_31 rfl rfl ?_
    refine iconst (pc' := 33) (v := (0 : Int32)) d_method_5_32 rfl rfl ?_
    refine aloadN (pc' := 34) d_method_5_33 rfl rfl rfl ?_
    refine iconst (pc' := 35) (v := (0 : Int32)) d_method_5_34 rfl rfl ?_
    refine caload (v := .int d0) (pc' := 36) d_method_5_35 Ab ⟨by decide, by decide⟩ rfl rfl ?_
    refine castore (pc' := 37) d_method_5_36 V114 ⟨by decide, by decide⟩ (by simp) (Nat.le_of_ble_eq_true rfl) rfl fun h116 W117 V118 => ?_
    replace K := K.wr W117 (Or.inr sz_a111)
    replace Ab := Ab.other W117 ne_b_a111
    replace V114 : Arv Z h116 a111 kc115 .char (2 : Int32) [(.int (nar .char d0)), (.int (0 : Int32))] (.int (0 : Int32)) := V118
    refine dup (pc' := 38) d_method_5_37 rfl rfl ?_
    refine iconst (pc' := 39) (v := (1 : Int32)) d_method_5_38 rfl rfl ?_
    refine aloadN (pc' := 40) d_method_5_39 rfl rfl rfl ?_
    refine iconst (pc' := 41) (v := (1 : Int32)) d_method_5_40 rfl rfl ?_
    refine caload (v := .int d1) (pc' := 42) d_method_5_41 Ab ⟨by decide, by decide⟩ rfl rfl ?_
    refine castore (pc' := 43) d_method_5_42 V114 ⟨by decide, by decide⟩ (by simp) (Nat.le_of_ble_eq_true rfl) rfl fun h119 W120 V121 => ?_
    replace K := K.wr W120 (Or.inr sz_a111)
    replace Ab := Ab.other W120 ne_b_a111
    replace V114 : Arv Z h119 a111 kc115 .char (2 : Int32) [(.int (nar .char d0)), (.int (nar .char d1))] (.int (0 : Int32)) := V121
    have q := V114
    rw [own_nar hd0, own_nar hd1] at q
    exact retA d_method_5_43 rfl rfl rfl (by decide) (by decide) ⟨a111, kc115, ([d0, d1] : List Int32), rfl, keepExt K, by show 2 < 12; decide, by intro c hc; simp only [List.mem_cons, List.not_mem_nil, or_false] at hc; rcases hc with rfl | rfl <;> assumption, q⟩
  · skip
    refine at' (ce' := 0) (sl' := 0) (pc' := 0) (L' := #[.val (.ref b), .val (.int (3 : Int32))]) (S' := []) rfl rfl rfl rfl rfl ?_
    refine iloadN (pc' := 1) d_method_5_0 rfl rfl ?_
    refine ifT (pc' := 8) d_method_5_1 (by decide : ¬ ((3 : Int32) = (0 : Int32))) (by decide) rfl ?_
    refine iloadN (pc' := 9) d_method_5_8 rfl rfl ?_
    refine iconst (pc' := 10) (v := (1 : Int32)) d_method_5_9 rfl rfl ?_
    refine icmpT (pc' := 23) d_method_5_10 (by decide : ¬ ((3 : Int32) = (1 : Int32))) (by decide) rfl ?_
    refine iloadN (pc' := 24) d_method_5_23 rfl rfl ?_
    refine iconst (pc' := 25) (v := (2 : Int32)) d_method_5_24 rfl rfl ?_
    refine icmpT (pc' := 44) d_method_5_25 (by decide : ¬ ((3 : Int32) = (2 : Int32))) (by decide) rfl ?_
    refine iloadN (pc' := 45) d_method_5_44 rfl rfl ?_
    refine iconst (pc' := 46) (v := (3 : Int32)) d_method_5_45 rfl rfl ?_
    refine icmpF (pc' := 49) d_method_5_46 (by decide : (3 : Int32) = (3 : Int32)) rfl ?_
    refine iconst (pc' := 50) (v := (3 : Int32)) d_method_5_49 rfl rfl ?_
    refine newarray (i := 25) (cap := 3) (ty := .char) (pc' := 52) d_method_5_50 rfl rfl (by decide) (by decide) (by decide) (by decide) (by decide) rfl fun h122 a123 kc127 g124 E125 V126 => ?_
    have sz_a123 : h.size ≤ a123 := by rw [g124]; exact K.1
    have ne_b_a123 : b ≠ a123 := Nat.ne_of_lt (by rw [g124]; exact Ab.lt)
    replace K := K.ext E125
    replace Ab := Ab.ext E125
    replace V126 : Arv Z h122 a123 kc127 .char (3 : Int32) [(.int (0 : Int32)), (.int (0 : Int32)), (.int (0 : Int32))] (.int (0 : Int32)) := V126.pad (pad_rep [] (.int (0 : Int32)) 3)
    refine dup (pc' := 53) d_method_5_52 rfl rfl ?_
    refine iconst (pc' := 54) (v := (0 : Int32)) d_method_5_53 rfl rfl ?_
    refine aloadN (pc' := 55) d_method_5_54 rfl rfl rfl ?_
    refine iconst (pc' := 56) (v := (0 : Int32)) d_method_5_55 rfl rfl ?_
    refine caload (v := .int d0) (pc' := 57) d_method_5_56 Ab ⟨by decide, by decide⟩ rfl rfl ?_
    refine castore (pc' := 58) d_method_5_57 V126 ⟨by decide, by decide⟩ (by simp) (Nat.le_of_ble_eq_true rfl) rfl fun h128 W129 V130 => ?_
    replace K := K.wr W129 (Or.inr sz_a123)
    replace Ab := Ab.other W129 ne_b_a123
    replace V126 : Arv Z h128 a123 kc127 .char (3 : Int32) [(.int (nar .char d0)), (.int (0 : Int32)), (.int (0 : Int32))] (.int (0 : Int32)) := V130
    refine dup (pc' := 59) d_method_5_58 rfl rfl ?_
    refine iconst (pc' := 60) (v := (1 : Int32)) d_method_5_59 rfl rfl ?_
    refine aloadN (pc' := 61) d_method_5_60 rfl rfl rfl ?_
    refine iconst (pc' := 62) (v := (1 : Int32)) d_method_5_61 rfl rfl ?_
    refine caload (v := .int d1) (pc' := 63) d_method_5_62 Ab ⟨by decide, by decide⟩ rfl rfl ?_
    refine castore (pc' := 64) d_method_5_63 V126 ⟨by decide, by decide⟩ (by simp) (Nat.le_of_ble_eq_true rfl) rfl fun h131 W132 V133 => ?_
    replace K := K.wr W132 (Or.inr sz_a123)
    replace Ab := Ab.other W132 ne_b_a123
    replace V126 : Arv Z h131 a123 kc127 .char (3 : Int32) [(.int (nar .char d0)), (.int (nar .char d1)), (.int (0 : Int32))] (.int (0 : Int32)) := V133
    refine dup (pc' := 65) d_method_5_64 rfl rfl ?_
    refine iconst (pc' := 66) (v := (2 : Int32)) d_method_5_65 rfl rfl ?_
    refine aloadN (pc' := 67) d_method_5_66 rfl rfl rfl ?_
    refine iconst (pc' := 68) (v := (2 : Int32)) d_method_5_67 rfl rfl ?_
    refine caload (v := .int d2) (pc' := 69) d_method_5_68 Ab ⟨by decide, by decide⟩ rfl rfl ?_
    refine castore (pc' := 70) d_method_5_69 V126 ⟨by decide, by decide⟩ (by simp) (Nat.le_of_ble_eq_true rfl) rfl fun h134 W135 V136 => ?_
    replace K := K.wr W135 (Or.inr sz_a123)
    replace Ab := Ab.other W135 ne_b_a123
    replace V126 : Arv Z h134 a123 kc127 .char (3 : Int32) [(.int (nar .char d0)), (.int (nar .char d1)), (.int (nar .char d2))] (.int (0 : Int32)) := V136
    have q := V126
    rw [own_nar hd0, own_nar hd1, own_nar hd2] at q
    exact retA d_method_5_70 rfl rfl rfl (by decide) (by decide) ⟨a123, kc127, ([d0, d1, d2] : List Int32), rfl, keepExt K, by show 3 < 12; decide, by intro c hc; simp only [List.mem_cons, List.not_mem_nil, or_false] at hc; rcases hc with rfl | rfl | rfl <;> assumption, q⟩
  · skip
    refine at' (ce' := 0) (sl' := 0) (pc' := 0) (L' := #[.val (.ref b), .val (.int (4 : Int32))]) (S' := []) rfl rfl rfl rfl rfl ?_
    refine iloadN (pc' := 1) d_method_5_0 rfl rfl ?_
    refine ifT (pc' := 8) d_method_5_1 (by decide : ¬ ((4 : Int32) = (0 : Int32))) (by decide) rfl ?_
    refine iloadN (pc' := 9) d_method_5_8 rfl rfl ?_
    refine iconst (pc' := 10) (v := (1 : Int32)) d_method_5_9 rfl rfl ?_
    refine icmpT (pc' := 23) d_method_5_10 (by decide : ¬ ((4 : Int32) = (1 : Int32))) (by decide) rfl ?_
    refine iloadN (pc' := 24) d_method_5_23 rfl rfl ?_
    refine iconst (pc' := 25) (v := (2 : Int32)) d_method_5_24 rfl rfl ?_
    refine icmpT (pc' := 44) d_method_5_25 (by decide : ¬ ((4 : Int32) = (2 : Int32))) (by decide) rfl ?_
    refine iloadN (pc' := 45) d_method_5_44 rfl rfl ?_
    refine iconst (pc' := 46) (v := (3 : Int32)) d_method_5_45 rfl rfl ?_
    refine icmpT (pc' := 71) d_method_5_46 (by decide : ¬ ((4 : Int32) = (3 : Int32))) (by decide) rfl ?_
    refine iloadN (pc' := 72) d_method_5_71 rfl rfl ?_
    refine iconst (pc' := 73) (v := (4 : Int32)) d_method_5_72 rfl rfl ?_
    refine icmpF (pc' := 76) d_method_5_73 (by decide : (4 : Int32) = (4 : Int32)) rfl ?_
    refine iconst (pc' := 77) (v := (4 : Int32)) d_method_5_76 rfl rfl ?_
    refine newarray (i := 25) (cap := 4) (ty := .char) (pc' := 79) d_method_5_77 rfl rfl (by decide) (by decide) (by decide) (by decide) (by decide) rfl fun h137 a138 kc142 g139 E140 V141 => ?_
    have sz_a138 : h.size ≤ a138 := by rw [g139]; exact K.1
    have ne_b_a138 : b ≠ a138 := Nat.ne_of_lt (by rw [g139]; exact Ab.lt)
    replace K := K.ext E140
    replace Ab := Ab.ext E140
    replace V141 : Arv Z h137 a138 kc142 .char (4 : Int32) [(.int (0 : Int32)), (.int (0 : Int32)), (.int (0 : Int32)), (.int (0 : Int32))] (.int (0 : Int32)) := V141.pad (pad_rep [] (.int (0 : Int32)) 4)
    refine dup (pc' := 80) d_method_5_79 rfl rfl ?_
    refine iconst (pc' := 81) (v := (0 : Int32)) d_method_5_80 rfl rfl ?_
    refine aloadN (pc' := 82) d_method_5_81 rfl rfl rfl ?_
    refine iconst (pc' := 83) (v := (0 : Int32)) d_method_5_82 rfl rfl ?_
    refine caload (v := .int d0) (pc' := 84) d_method_5_83 Ab ⟨by decide, by decide⟩ rfl rfl ?_
    refine castore (pc' := 85) d_method_5_84 V141 ⟨by decide, by decide⟩ (by simp) (Nat.le_of_ble_eq_true rfl) rfl fun h143 W144 V145 => ?_
    replace K := K.wr W144 (Or.inr sz_a138)
    replace Ab := Ab.other W144 ne_b_a138
    replace V141 : Arv Z h143 a138 kc142 .char (4 : Int32) [(.int (nar .char d0)), (.int (0 : Int32)), (.int (0 : Int32)), (.int (0 : Int32))] (.int (0 : Int32)) := V145
    refine dup (pc' := 86) d_method_5_85 rfl rfl ?_
    refine iconst (pc' := 87) (v := (1 : Int32)) d_method_5_86 rfl rfl ?_
    refine aloadN (pc' := 88) d_method_5_87 rfl rfl rfl ?_
    refine iconst (pc' := 89) (v := (1 : Int32)) d_method_5_88 rfl rfl ?_
    refine caload (v := .int d1) (pc' := 90) d_method_5_89 Ab ⟨by decide, by decide⟩ rfl rfl ?_
    refine castore (pc' := 91) d_method_5_90 V141 ⟨by decide, by decide⟩ (by simp) (Nat.le_of_ble_eq_true rfl) rfl fun h146 W147 V148 => ?_
    replace K := K.wr W147 (Or.inr sz_a138)
    replace Ab := Ab.other W147 ne_b_a138
    replace V141 : Arv Z h146 a138 kc142 .char (4 : Int32) [(.int (nar .char d0)), (.int (nar .char d1)), (.int (0 : Int32)), (.int (0 : Int32))] (.int (0 : Int32)) := V148
    refine dup (pc' := 92) d_method_5_91 rfl rfl ?_
    refine iconst (pc' := 93) (v := (2 : Int32)) d_method_5_92 rfl rfl ?_
    refine aloadN (pc' := 94) d_method_5_93 rfl rfl rfl ?_
    refine iconst (pc' := 95) (v := (2 : Int32)) d_method_5_94 rfl rfl ?_
    refine caload (v := .int d2) (pc' := 96) d_method_5_95 Ab ⟨by decide, by decide⟩ rfl rfl ?_
    refine castore (pc' := 97) d_method_5_96 V141 ⟨by decide, by decide⟩ (by simp) (Nat.le_of_ble_eq_true rfl) rfl fun h149 W150 V151 => ?_
    replace K := K.wr W150 (Or.inr sz_a138)
    replace Ab := Ab.other W150 ne_b_a138
    replace V141 : Arv Z h149 a138 kc142 .char (4 : Int32) [(.int (nar .char d0)), (.int (nar .char d1)), (.int (nar .char d2)), (.int (0 : Int32))] (.int (0 : Int32)) := V151
    refine dup (pc' := 98) d_method_5_97 rfl rfl ?_
    refine iconst (pc' := 99) (v := (3 : Int32)) d_method_5_98 rfl rfl ?_
    refine aloadN (pc' := 100) d_method_5_99 rfl rfl rfl ?_
    refine iconst (pc' := 101) (v := (3 : Int32)) d_method_5_100 rfl rfl ?_
    refine caload (v := .int d3) (pc' := 102) d_method_5_101 Ab ⟨by decide, by decide⟩ rfl rfl ?_
    refine castore (pc' := 103) d_method_5_102 V141 ⟨by decide, by decide⟩ (by simp) (Nat.le_of_ble_eq_true rfl) rfl fun h152 W153 V154 => ?_
    replace K := K.wr W153 (Or.inr sz_a138)
    replace Ab := Ab.other W153 ne_b_a138
    replace V141 : Arv Z h152 a138 kc142 .char (4 : Int32) [(.int (nar .char d0)), (.int (nar .char d1)), (.int (nar .char d2)), (.int (nar .char d3))] (.int (0 : Int32)) := V154
    have q := V141
    rw [own_nar hd0, own_nar hd1, own_nar hd2, own_nar hd3] at q
    exact retA d_method_5_103 rfl rfl rfl (by decide) (by decide) ⟨a138, kc142, ([d0, d1, d2, d3] : List Int32), rfl, keepExt K, by show 4 < 12; decide, by intro c hc; simp only [List.mem_cons, List.not_mem_nil, or_false] at hc; rcases hc with rfl | rfl | rfl | rfl <;> assumption, q⟩
  · skip
    refine at' (ce' := 0) (sl' := 0) (pc' := 0) (L' := #[.val (.ref b), .val (.int (5 : Int32))]) (S' := []) rfl rfl rfl rfl rfl ?_
    refine iloadN (pc' := 1) d_method_5_0 rfl rfl ?_
    refine ifT (pc' := 8) d_method_5_1 (by decide : ¬ ((5 : Int32) = (0 : Int32))) (by decide) rfl ?_
    refine iloadN (pc' := 9) d_method_5_8 rfl rfl ?_
    refine iconst (pc' := 10) (v := (1 : Int32)) d_method_5_9 rfl rfl ?_
    refine icmpT (pc' := 23) d_method_5_10 (by decide : ¬ ((5 : Int32) = (1 : Int32))) (by decide) rfl ?_
    refine iloadN (pc' := 24) d_method_5_23 rfl rfl ?_
    refine iconst (pc' := 25) (v := (2 : Int32)) d_method_5_24 rfl rfl ?_
    refine icmpT (pc' := 44) d_method_5_25 (by decide : ¬ ((5 : Int32) = (2 : Int32))) (by decide) rfl ?_
    refine iloadN (pc' := 45) d_method_5_44 rfl rfl ?_
    refine iconst (pc' := 46) (v := (3 : Int32)) d_method_5_45 rfl rfl ?_
    refine icmpT (pc' := 71) d_method_5_46 (by decide : ¬ ((5 : Int32) = (3 : Int32))) (by decide) rfl ?_
    refine iloadN (pc' := 72) d_method_5_71 rfl rfl ?_
    refine iconst (pc' := 73) (v := (4 : Int32)) d_method_5_72 rfl rfl ?_
    refine icmpT (pc' := 104) d_method_5_73 (by decide : ¬ ((5 : Int32) = (4 : Int32))) (by decide) rfl ?_
    refine iloadN (pc' := 105) d_method_5_104 rfl rfl ?_
    refine iconst (pc' := 106) (v := (5 : Int32)) d_method_5_105 rfl rfl ?_
    refine icmpF (pc' := 109) d_method_5_106 (by decide : (5 : Int32) = (5 : Int32)) rfl ?_
    refine iconst (pc' := 110) (v := (5 : Int32)) d_method_5_109 rfl rfl ?_
    refine newarray (i := 25) (cap := 5) (ty := .char) (pc' := 112) d_method_5_110 rfl rfl (by decide) (by decide) (by decide) (by decide) (by decide) rfl fun h155 a156 kc160 g157 E158 V159 => ?_
    have sz_a156 : h.size ≤ a156 := by rw [g157]; exact K.1
    have ne_b_a156 : b ≠ a156 := Nat.ne_of_lt (by rw [g157]; exact Ab.lt)
    replace K := K.ext E158
    replace Ab := Ab.ext E158
    replace V159 : Arv Z h155 a156 kc160 .char (5 : Int32) [(.int (0 : Int32)), (.int (0 : Int32)), (.int (0 : Int32)), (.int (0 : Int32)), (.int (0 : Int32))] (.int (0 : Int32)) := V159.pad (pad_rep [] (.int (0 : Int32)) 5)
    refine dup (pc' := 113) d_method_5_112 rfl rfl ?_
    refine iconst (pc' := 114) (v := (0 : Int32)) d_method_5_113 rfl rfl ?_
    refine aloadN (pc' := 115) d_method_5_114 rfl rfl rfl ?_
    refine iconst (pc' := 116) (v := (0 : Int32)) d_method_5_115 rfl rfl ?_
    refine caload (v := .int d0) (pc' := 117) d_method_5_116 Ab ⟨by decide, by decide⟩ rfl rfl ?_
    refine castore (pc' := 118) d_method_5_117 V159 ⟨by decide, by decide⟩ (by simp) (Nat.le_of_ble_eq_true rfl) rfl fun h161 W162 V163 => ?_
    replace K := K.wr W162 (Or.inr sz_a156)
    replace Ab := Ab.other W162 ne_b_a156
    replace V159 : Arv Z h161 a156 kc160 .char (5 : Int32) [(.int (nar .char d0)), (.int (0 : Int32)), (.int (0 : Int32)), (.int (0 : Int32)), (.int (0 : Int32))] (.int (0 : Int32)) := V163
    refine dup (pc' := 119) d_method_5_118 rfl rfl ?_
    refine iconst (pc' := 120) (v := (1 : Int32)) d_method_5_119 rfl rfl ?_
    refine aloadN (pc' := 121) d_method_5_120 rfl rfl rfl ?_
    refine iconst (pc' := 122) (v := (1 : Int32)) d_method_5_121 rfl rfl ?_
    refine caload (v := .int d1) (pc' := 123) d_method_5_122 Ab ⟨by decide, by decide⟩ rfl rfl ?_
    refine castore (pc' := 124) d_method_5_123 V159 ⟨by decide, by decide⟩ (by simp) (Nat.le_of_ble_eq_true rfl) rfl fun h164 W165 V166 => ?_
    replace K := K.wr W165 (Or.inr sz_a156)
    replace Ab := Ab.other W165 ne_b_a156
    replace V159 : Arv Z h164 a156 kc160 .char (5 : Int32) [(.int (nar .char d0)), (.int (nar .char d1)), (.int (0 : Int32)), (.int (0 : Int32)), (.int (0 : Int32))] (.int (0 : Int32)) := V166
    refine dup (pc' := 125) d_method_5_124 rfl rfl ?_
    refine iconst (pc' := 126) (v := (2 : Int32)) d_method_5_125 rfl rfl ?_
    refine aloadN (pc' := 127) d_method_5_126 rfl rfl rfl ?_
    refine iconst (pc' := 128) (v := (2 : Int32)) d_method_5_127 rfl rfl ?_
    refine caload (v := .int d2) (pc' := 129) d_method_5_128 Ab ⟨by decide, by decide⟩ rfl rfl ?_
    refine castore (pc' := 130) d_method_5_129 V159 ⟨by decide, by decide⟩ (by simp) (Nat.le_of_ble_eq_true rfl) rfl fun h167 W168 V169 => ?_
    replace K := K.wr W168 (Or.inr sz_a156)
    replace Ab := Ab.other W168 ne_b_a156
    replace V159 : Arv Z h167 a156 kc160 .char (5 : Int32) [(.int (nar .char d0)), (.int (nar .char d1)), (.int (nar .char d2)), (.int (0 : Int32)), (.int (0 : Int32))] (.int (0 : Int32)) := V169
    refine dup (pc' := 131) d_method_5_130 rfl rfl ?_
    refine iconst (pc' := 132) (v := (3 : Int32)) d_method_5_131 rfl rfl ?_
    refine aloadN (pc' := 133) d_method_5_132 rfl rfl rfl ?_
    refine iconst (pc' := 134) (v := (3 : Int32)) d_method_5_133 rfl rfl ?_
    refine caload (v := .int d3) (pc' := 135) d_method_5_134 Ab ⟨by decide, by decide⟩ rfl rfl ?_
    refine castore (pc' := 136) d_method_5_135 V159 ⟨by decide, by decide⟩ (by simp) (Nat.le_of_ble_eq_true rfl) rfl fun h170 W171 V172 => ?_
    replace K := K.wr W171 (Or.inr sz_a156)
    replace Ab := Ab.other W171 ne_b_a156
    replace V159 : Arv Z h170 a156 kc160 .char (5 : Int32) [(.int (nar .char d0)), (.int (nar .char d1)), (.int (nar .char d2)), (.int (nar .char d3)), (.int (0 : Int32))] (.int (0 : Int32)) := V172
    refine dup (pc' := 137) d_method_5_136 rfl rfl ?_
    refine iconst (pc' := 138) (v := (4 : Int32)) d_method_5_137 rfl rfl ?_
    refine aloadN (pc' := 139) d_method_5_138 rfl rfl rfl ?_
    refine iconst (pc' := 140) (v := (4 : Int32)) d_method_5_139 rfl rfl ?_
    refine caload (v := .int d4) (pc' := 141) d_method_5_140 Ab ⟨by decide, by decide⟩ rfl rfl ?_
    refine castore (pc' := 142) d_method_5_141 V159 ⟨by decide, by decide⟩ (by simp) (Nat.le_of_ble_eq_true rfl) rfl fun h173 W174 V175 => ?_
    replace K := K.wr W174 (Or.inr sz_a156)
    replace Ab := Ab.other W174 ne_b_a156
    replace V159 : Arv Z h173 a156 kc160 .char (5 : Int32) [(.int (nar .char d0)), (.int (nar .char d1)), (.int (nar .char d2)), (.int (nar .char d3)), (.int (nar .char d4))] (.int (0 : Int32)) := V175
    have q := V159
    rw [own_nar hd0, own_nar hd1, own_nar hd2, own_nar hd3, own_nar hd4] at q
    exact retA d_method_5_142 rfl rfl rfl (by decide) (by decide) ⟨a156, kc160, ([d0, d1, d2, d3, d4] : List Int32), rfl, keepExt K, by show 5 < 12; decide, by intro c hc; simp only [List.mem_cons, List.not_mem_nil, or_false] at hc; rcases hc with rfl | rfl | rfl | rfl | rfl <;> assumption, q⟩
  · skip
    refine at' (ce' := 0) (sl' := 0) (pc' := 0) (L' := #[.val (.ref b), .val (.int (6 : Int32))]) (S' := []) rfl rfl rfl rfl rfl ?_
    refine iloadN (pc' := 1) d_method_5_0 rfl rfl ?_
    refine ifT (pc' := 8) d_method_5_1 (by decide : ¬ ((6 : Int32) = (0 : Int32))) (by decide) rfl ?_
    refine iloadN (pc' := 9) d_method_5_8 rfl rfl ?_
    refine iconst (pc' := 10) (v := (1 : Int32)) d_method_5_9 rfl rfl ?_
    refine icmpT (pc' := 23) d_method_5_10 (by decide : ¬ ((6 : Int32) = (1 : Int32))) (by decide) rfl ?_
    refine iloadN (pc' := 24) d_method_5_23 rfl rfl ?_
    refine iconst (pc' := 25) (v := (2 : Int32)) d_method_5_24 rfl rfl ?_
    refine icmpT (pc' := 44) d_method_5_25 (by decide : ¬ ((6 : Int32) = (2 : Int32))) (by decide) rfl ?_
    refine iloadN (pc' := 45) d_method_5_44 rfl rfl ?_
    refine iconst (pc' := 46) (v := (3 : Int32)) d_method_5_45 rfl rfl ?_
    refine icmpT (pc' := 71) d_method_5_46 (by decide : ¬ ((6 : Int32) = (3 : Int32))) (by decide) rfl ?_
    refine iloadN (pc' := 72) d_method_5_71 rfl rfl ?_
    refine iconst (pc' := 73) (v := (4 : Int32)) d_method_5_72 rfl rfl ?_
    refine icmpT (pc' := 104) d_method_5_73 (by decide : ¬ ((6 : Int32) = (4 : Int32))) (by decide) rfl ?_
    refine iloadN (pc' := 105) d_method_5_104 rfl rfl ?_
    refine iconst (pc' := 106) (v := (5 : Int32)) d_method_5_105 rfl rfl ?_
    refine icmpT (pc' := 143) d_method_5_106 (by decide : ¬ ((6 : Int32) = (5 : Int32))) (by decide) rfl ?_
    refine iloadN (pc' := 144) d_method_5_143 rfl rfl ?_
    refine bipush (pc' := 146) (v := (6 : Int32)) d_method_5_144 rfl rfl ?_
    refine icmpF (pc' := 149) d_method_5_146 (by decide : (6 : Int32) = (6 : Int32)) rfl ?_
    refine bipush (pc' := 151) (v := (6 : Int32)) d_method_5_149 rfl rfl ?_
    refine newarray (i := 25) (cap := 6) (ty := .char) (pc' := 153) d_method_5_151 rfl rfl (by decide) (by decide) (by decide) (by decide) (by decide) rfl fun h176 a177 kc181 g178 E179 V180 => ?_
    have sz_a177 : h.size ≤ a177 := by rw [g178]; exact K.1
    have ne_b_a177 : b ≠ a177 := Nat.ne_of_lt (by rw [g178]; exact Ab.lt)
    replace K := K.ext E179
    replace Ab := Ab.ext E179
    replace V180 : Arv Z h176 a177 kc181 .char (6 : Int32) [(.int (0 : Int32)), (.int (0 : Int32)), (.int (0 : Int32)), (.int (0 : Int32)), (.int (0 : Int32)), (.int (0 : Int32))] (.int (0 : Int32)) := V180.pad (pad_rep [] (.int (0 : Int32)) 6)
    refine dup (pc' := 154) d_method_5_153 rfl rfl ?_
    refine iconst (pc' := 155) (v := (0 : Int32)) d_method_5_154 rfl rfl ?_
    refine aloadN (pc' := 156) d_method_5_155 rfl rfl rfl ?_
    refine iconst (pc' := 157) (v := (0 : Int32)) d_method_5_156 rfl rfl ?_
    refine caload (v := .int d0) (pc' := 158) d_method_5_157 Ab ⟨by decide, by decide⟩ rfl rfl ?_
    refine castore (pc' := 159) d_method_5_158 V180 ⟨by decide, by decide⟩ (by simp) (Nat.le_of_ble_eq_true rfl) rfl fun h182 W183 V184 => ?_
    replace K := K.wr W183 (Or.inr sz_a177)
    replace Ab := Ab.other W183 ne_b_a177
    replace V180 : Arv Z h182 a177 kc181 .char (6 : Int32) [(.int (nar .char d0)), (.int (0 : Int32)), (.int (0 : Int32)), (.int (0 : Int32)), (.int (0 : Int32)), (.int (0 : Int32))] (.int (0 : Int32)) := V184
    refine dup (pc' := 160) d_method_5_159 rfl rfl ?_
    refine iconst (pc' := 161) (v := (1 : Int32)) d_method_5_160 rfl rfl ?_
    refine aloadN (pc' := 162) d_method_5_161 rfl rfl rfl ?_
    refine iconst (pc' := 163) (v := (1 : Int32)) d_method_5_162 rfl rfl ?_
    refine caload (v := .int d1) (pc' := 164) d_method_5_163 Ab ⟨by decide, by decide⟩ rfl rfl ?_
    refine castore (pc' := 165) d_method_5_164 V180 ⟨by decide, by decide⟩ (by simp) (Nat.le_of_ble_eq_true rfl) rfl fun h185 W186 V187 => ?_
    replace K := K.wr W186 (Or.inr sz_a177)
    replace Ab := Ab.other W186 ne_b_a177
    replace V180 : Arv Z h185 a177 kc181 .char (6 : Int32) [(.int (nar .char d0)), (.int (nar .char d1)), (.int (0 : Int32)), (.int (0 : Int32)), (.int (0 : Int32)), (.int (0 : Int32))] (.int (0 : Int32)) := V187
    refine dup (pc' := 166) d_method_5_165 rfl rfl ?_
    refine iconst (pc' := 167) (v := (2 : Int32)) d_method_5_166 rfl rfl ?_
    refine aloadN (pc' := 168) d_method_5_167 rfl rfl rfl ?_
    refine iconst (pc' := 169) (v := (2 : Int32)) d_method_5_168 rfl rfl ?_
    refine caload (v := .int d2) (pc' := 170) d_method_5_169 Ab ⟨by decide, by decide⟩ rfl rfl ?_
    refine castore (pc' := 171) d_method_5_170 V180 ⟨by decide, by decide⟩ (by simp) (Nat.le_of_ble_eq_true rfl) rfl fun h188 W189 V190 => ?_
    replace K := K.wr W189 (Or.inr sz_a177)
    replace Ab := Ab.other W189 ne_b_a177
    replace V180 : Arv Z h188 a177 kc181 .char (6 : Int32) [(.int (nar .char d0)), (.int (nar .char d1)), (.int (nar .char d2)), (.int (0 : Int32)), (.int (0 : Int32)), (.int (0 : Int32))] (.int (0 : Int32)) := V190
    refine dup (pc' := 172) d_method_5_171 rfl rfl ?_
    refine iconst (pc' := 173) (v := (3 : Int32)) d_method_5_172 rfl rfl ?_
    refine aloadN (pc' := 174) d_method_5_173 rfl rfl rfl ?_
    refine iconst (pc' := 175) (v := (3 : Int32)) d_method_5_174 rfl rfl ?_
    refine caload (v := .int d3) (pc' := 176) d_method_5_175 Ab ⟨by decide, by decide⟩ rfl rfl ?_
    refine castore (pc' := 177) d_method_5_176 V180 ⟨by decide, by decide⟩ (by simp) (Nat.le_of_ble_eq_true rfl) rfl fun h191 W192 V193 => ?_
    replace K := K.wr W192 (Or.inr sz_a177)
    replace Ab := Ab.other W192 ne_b_a177
    replace V180 : Arv Z h191 a177 kc181 .char (6 : Int32) [(.int (nar .char d0)), (.int (nar .char d1)), (.int (nar .char d2)), (.int (nar .char d3)), (.int (0 : Int32)), (.int (0 : Int32))] (.int (0 : Int32)) := V193
    refine dup (pc' := 178) d_method_5_177 rfl rfl ?_
    refine iconst (pc' := 179) (v := (4 : Int32)) d_method_5_178 rfl rfl ?_
    refine aloadN (pc' := 180) d_method_5_179 rfl rfl rfl ?_
    refine iconst (pc' := 181) (v := (4 : Int32)) d_method_5_180 rfl rfl ?_
    refine caload (v := .int d4) (pc' := 182) d_method_5_181 Ab ⟨by decide, by decide⟩ rfl rfl ?_
    refine castore (pc' := 183) d_method_5_182 V180 ⟨by decide, by decide⟩ (by simp) (Nat.le_of_ble_eq_true rfl) rfl fun h194 W195 V196 => ?_
    replace K := K.wr W195 (Or.inr sz_a177)
    replace Ab := Ab.other W195 ne_b_a177
    replace V180 : Arv Z h194 a177 kc181 .char (6 : Int32) [(.int (nar .char d0)), (.int (nar .char d1)), (.int (nar .char d2)), (.int (nar .char d3)), (.int (nar .char d4)), (.int (0 : Int32))] (.int (0 : Int32)) := V196
    refine dup (pc' := 184) d_method_5_183 rfl rfl ?_
    refine iconst (pc' := 185) (v := (5 : Int32)) d_method_5_184 rfl rfl ?_
    refine aloadN (pc' := 186) d_method_5_185 rfl rfl rfl ?_
    refine iconst (pc' := 187) (v := (5 : Int32)) d_method_5_186 rfl rfl ?_
    refine caload (v := .int d5) (pc' := 188) d_method_5_187 Ab ⟨by decide, by decide⟩ rfl rfl ?_
    refine castore (pc' := 189) d_method_5_188 V180 ⟨by decide, by decide⟩ (by simp) (Nat.le_of_ble_eq_true rfl) rfl fun h197 W198 V199 => ?_
    replace K := K.wr W198 (Or.inr sz_a177)
    replace Ab := Ab.other W198 ne_b_a177
    replace V180 : Arv Z h197 a177 kc181 .char (6 : Int32) [(.int (nar .char d0)), (.int (nar .char d1)), (.int (nar .char d2)), (.int (nar .char d3)), (.int (nar .char d4)), (.int (nar .char d5))] (.int (0 : Int32)) := V199
    have q := V180
    rw [own_nar hd0, own_nar hd1, own_nar hd2, own_nar hd3, own_nar hd4, own_nar hd5] at q
    exact retA d_method_5_189 rfl rfl rfl (by decide) (by decide) ⟨a177, kc181, ([d0, d1, d2, d3, d4, d5] : List Int32), rfl, keepExt K, by show 6 < 12; decide, by intro c hc; simp only [List.mem_cons, List.not_mem_nil, or_false] at hc; rcases hc with rfl | rfl | rfl | rfl | rfl | rfl <;> assumption, q⟩
  · skip
    refine at' (ce' := 0) (sl' := 0) (pc' := 0) (L' := #[.val (.ref b), .val (.int (7 : Int32))]) (S' := []) rfl rfl rfl rfl rfl ?_
    refine iloadN (pc' := 1) d_method_5_0 rfl rfl ?_
    refine ifT (pc' := 8) d_method_5_1 (by decide : ¬ ((7 : Int32) = (0 : Int32))) (by decide) rfl ?_
    refine iloadN (pc' := 9) d_method_5_8 rfl rfl ?_
    refine iconst (pc' := 10) (v := (1 : Int32)) d_method_5_9 rfl rfl ?_
    refine icmpT (pc' := 23) d_method_5_10 (by decide : ¬ ((7 : Int32) = (1 : Int32))) (by decide) rfl ?_
    refine iloadN (pc' := 24) d_method_5_23 rfl rfl ?_
    refine iconst (pc' := 25) (v := (2 : Int32)) d_method_5_24 rfl rfl ?_
    refine icmpT (pc' := 44) d_method_5_25 (by decide : ¬ ((7 : Int32) = (2 : Int32))) (by decide) rfl ?_
    refine iloadN (pc' := 45) d_method_5_44 rfl rfl ?_
    refine iconst (pc' := 46) (v := (3 : Int32)) d_method_5_45 rfl rfl ?_
    refine icmpT (pc' := 71) d_method_5_46 (by decide : ¬ ((7 : Int32) = (3 : Int32))) (by decide) rfl ?_
    refine iloadN (pc' := 72) d_method_5_71 rfl rfl ?_
    refine iconst (pc' := 73) (v := (4 : Int32)) d_method_5_72 rfl rfl ?_
    refine icmpT (pc' := 104) d_method_5_73 (by decide : ¬ ((7 : Int32) = (4 : Int32))) (by decide) rfl ?_
    refine iloadN (pc' := 105) d_method_5_104 rfl rfl ?_
    refine iconst (pc' := 106) (v := (5 : Int32)) d_method_5_105 rfl rfl ?_
    refine icmpT (pc' := 143) d_method_5_106 (by decide : ¬ ((7 : Int32) = (5 : Int32))) (by decide) rfl ?_
    refine iloadN (pc' := 144) d_method_5_143 rfl rfl ?_
    refine bipush (pc' := 146) (v := (6 : Int32)) d_method_5_144 rfl rfl ?_
    refine icmpT (pc' := 190) d_method_5_146 (by decide : ¬ ((7 : Int32) = (6 : Int32))) (by decide) rfl ?_
    refine iloadN (pc' := 191) d_method_5_190 rfl rfl ?_
    refine bipush (pc' := 193) (v := (7 : Int32)) d_method_5_191 rfl rfl ?_
    refine icmpF (pc' := 196) d_method_5_193 (by decide : (7 : Int32) = (7 : Int32)) rfl ?_
    refine bipush (pc' := 198) (v := (7 : Int32)) d_method_5_196 rfl rfl ?_
    refine newarray (i := 25) (cap := 7) (ty := .char) (pc' := 200) d_method_5_198 rfl rfl (by decide) (by decide) (by decide) (by decide) (by decide) rfl fun h200 a201 kc205 g202 E203 V204 => ?_
    have sz_a201 : h.size ≤ a201 := by rw [g202]; exact K.1
    have ne_b_a201 : b ≠ a201 := Nat.ne_of_lt (by rw [g202]; exact Ab.lt)
    replace K := K.ext E203
    replace Ab := Ab.ext E203
    replace V204 : Arv Z h200 a201 kc205 .char (7 : Int32) [(.int (0 : Int32)), (.int (0 : Int32)), (.int (0 : Int32)), (.int (0 : Int32)), (.int (0 : Int32)), (.int (0 : Int32)), (.int (0 : Int32))] (.int (0 : Int32)) := V204.pad (pad_rep [] (.int (0 : Int32)) 7)
    refine dup (pc' := 201) d_method_5_200 rfl rfl ?_
    refine iconst (pc' := 202) (v := (0 : Int32)) d_method_5_201 rfl rfl ?_
    refine aloadN (pc' := 203) d_method_5_202 rfl rfl rfl ?_
    refine iconst (pc' := 204) (v := (0 : Int32)) d_method_5_203 rfl rfl ?_
    refine caload (v := .int d0) (pc' := 205) d_method_5_204 Ab ⟨by decide, by decide⟩ rfl rfl ?_
    refine castore (pc' := 206) d_method_5_205 V204 ⟨by decide, by decide⟩ (by simp) (Nat.le_of_ble_eq_true rfl) rfl fun h206 W207 V208 => ?_
    replace K := K.wr W207 (Or.inr sz_a201)
    replace Ab := Ab.other W207 ne_b_a201
    replace V204 : Arv Z h206 a201 kc205 .char (7 : Int32) [(.int (nar .char d0)), (.int (0 : Int32)), (.int (0 : Int32)), (.int (0 : Int32)), (.int (0 : Int32)), (.int (0 : Int32)), (.int (0 : Int32))] (.int (0 : Int32)) := V208
    refine dup (pc' := 207) d_method_5_206 rfl rfl ?_
    refine iconst (pc' := 208) (v := (1 : Int32)) d_method_5_207 rfl rfl ?_
    refine aloadN (pc' := 209) d_method_5_208 rfl rfl rfl ?_
    refine iconst (pc' := 210) (v := (1 : Int32)) d_method_5_209 rfl rfl ?_
    refine caload (v := .int d1) (pc' := 211) d_method_5_210 Ab ⟨by decide, by decide⟩ rfl rfl ?_
    refine castore (pc' := 212) d_method_5_211 V204 ⟨by decide, by decide⟩ (by simp) (Nat.le_of_ble_eq_true rfl) rfl fun h209 W210 V211 => ?_
    replace K := K.wr W210 (Or.inr sz_a201)
    replace Ab := Ab.other W210 ne_b_a201
    replace V204 : Arv Z h209 a201 kc205 .char (7 : Int32) [(.int (nar .char d0)), (.int (nar .char d1)), (.int (0 : Int32)), (.int (0 : Int32)), (.int (0 : Int32)), (.int (0 : Int32)), (.int (0 : Int32))] (.int (0 : Int32)) := V211
    refine dup (pc' := 213) d_method_5_212 rfl rfl ?_
    refine iconst (pc' := 214) (v := (2 : Int32)) d_method_5_213 rfl rfl ?_
    refine aloadN (pc' := 215) d_method_5_214 rfl rfl rfl ?_
    refine iconst (pc' := 216) (v := (2 : Int32)) d_method_5_215 rfl rfl ?_
    refine caload (v := .int d2) (pc' := 217) d_method_5_216 Ab ⟨by decide, by decide⟩ rfl rfl ?_
    refine castore (pc' := 218) d_method_5_217 V204 ⟨by decide, by decide⟩ (by simp) (Nat.le_of_ble_eq_true rfl) rfl fun h212 W213 V214 => ?_
    replace K := K.wr W213 (Or.inr sz_a201)
    replace Ab := Ab.other W213 ne_b_a201
    replace V204 : Arv Z h212 a201 kc205 .char (7 : Int32) [(.int (nar .char d0)), (.int (nar .char d1)), (.int (nar .char d2)), (.int (0 : Int32)), (.int (0 : Int32)), (.int (0 : Int32)), (.int (0 : Int32))] (.int (0 : Int32)) := V214
    refine dup (pc' := 219) d_method_5_218 rfl rfl ?_
    refine iconst (pc' := 220) (v := (3 : Int32)) d_method_5_219 rfl rfl ?_
    refine aloadN (pc' := 221) d_method_5_220 rfl rfl rfl ?_
    refine iconst (pc' := 222) (v := (3 : Int32)) d_method_5_221 rfl rfl ?_
    refine caload (v := .int d3) (pc' := 223) d_method_5_222 Ab ⟨by decide, by decide⟩ rfl rfl ?_
    refine castore (pc' := 224) d_method_5_223 V204 ⟨by decide, by decide⟩ (by simp) (Nat.le_of_ble_eq_true rfl) rfl fun h215 W216 V217 => ?_
    replace K := K.wr W216 (Or.inr sz_a201)
    replace Ab := Ab.other W216 ne_b_a201
    replace V204 : Arv Z h215 a201 kc205 .char (7 : Int32) [(.int (nar .char d0)), (.int (nar .char d1)), (.int (nar .char d2)), (.int (nar .char d3)), (.int (0 : Int32)), (.int (0 : Int32)), (.int (0 : Int32))] (.int (0 : Int32)) := V217
    refine dup (pc' := 225) d_method_5_224 rfl rfl ?_
    refine iconst (pc' := 226) (v := (4 : Int32)) d_method_5_225 rfl rfl ?_
    refine aloadN (pc' := 227) d_method_5_226 rfl rfl rfl ?_
    refine iconst (pc' := 228) (v := (4 : Int32)) d_method_5_227 rfl rfl ?_
    refine caload (v := .int d4) (pc' := 229) d_method_5_228 Ab ⟨by decide, by decide⟩ rfl rfl ?_
    refine castore (pc' := 230) d_method_5_229 V204 ⟨by decide, by decide⟩ (by simp) (Nat.le_of_ble_eq_true rfl) rfl fun h218 W219 V220 => ?_
    replace K := K.wr W219 (Or.inr sz_a201)
    replace Ab := Ab.other W219 ne_b_a201
    replace V204 : Arv Z h218 a201 kc205 .char (7 : Int32) [(.int (nar .char d0)), (.int (nar .char d1)), (.int (nar .char d2)), (.int (nar .char d3)), (.int (nar .char d4)), (.int (0 : Int32)), (.int (0 : Int32))] (.int (0 : Int32)) := V220
    refine dup (pc' := 231) d_method_5_230 rfl rfl ?_
    refine iconst (pc' := 232) (v := (5 : Int32)) d_method_5_231 rfl rfl ?_
    refine aloadN (pc' := 233) d_method_5_232 rfl rfl rfl ?_
    refine iconst (pc' := 234) (v := (5 : Int32)) d_method_5_233 rfl rfl ?_
    refine caload (v := .int d5) (pc' := 235) d_method_5_234 Ab ⟨by decide, by decide⟩ rfl rfl ?_
    refine castore (pc' := 236) d_method_5_235 V204 ⟨by decide, by decide⟩ (by simp) (Nat.le_of_ble_eq_true rfl) rfl fun h221 W222 V223 => ?_
    replace K := K.wr W222 (Or.inr sz_a201)
    replace Ab := Ab.other W222 ne_b_a201
    replace V204 : Arv Z h221 a201 kc205 .char (7 : Int32) [(.int (nar .char d0)), (.int (nar .char d1)), (.int (nar .char d2)), (.int (nar .char d3)), (.int (nar .char d4)), (.int (nar .char d5)), (.int (0 : Int32))] (.int (0 : Int32)) := V223
    refine dup (pc' := 237) d_method_5_236 rfl rfl ?_
    refine bipush (pc' := 239) (v := (6 : Int32)) d_method_5_237 rfl rfl ?_
    refine aloadN (pc' := 240) d_method_5_239 rfl rfl rfl ?_
    refine bipush (pc' := 242) (v := (6 : Int32)) d_method_5_240 rfl rfl ?_
    refine caload (v := .int d6) (pc' := 243) d_method_5_242 Ab ⟨by decide, by decide⟩ rfl rfl ?_
    refine castore (pc' := 244) d_method_5_243 V204 ⟨by decide, by decide⟩ (by simp) (Nat.le_of_ble_eq_true rfl) rfl fun h224 W225 V226 => ?_
    replace K := K.wr W225 (Or.inr sz_a201)
    replace Ab := Ab.other W225 ne_b_a201
    replace V204 : Arv Z h224 a201 kc205 .char (7 : Int32) [(.int (nar .char d0)), (.int (nar .char d1)), (.int (nar .char d2)), (.int (nar .char d3)), (.int (nar .char d4)), (.int (nar .char d5)), (.int (nar .char d6))] (.int (0 : Int32)) := V226
    have q := V204
    rw [own_nar hd0, own_nar hd1, own_nar hd2, own_nar hd3, own_nar hd4, own_nar hd5, own_nar hd6] at q
    exact retA d_method_5_244 rfl rfl rfl (by decide) (by decide) ⟨a201, kc205, ([d0, d1, d2, d3, d4, d5, d6] : List Int32), rfl, keepExt K, by show 7 < 12; decide, by intro c hc; simp only [List.mem_cons, List.not_mem_nil, or_false] at hc; rcases hc with rfl | rfl | rfl | rfl | rfl | rfl | rfl <;> assumption, q⟩
  · skip
    refine at' (ce' := 0) (sl' := 0) (pc' := 0) (L' := #[.val (.ref b), .val (.int (8 : Int32))]) (S' := []) rfl rfl rfl rfl rfl ?_
    refine iloadN (pc' := 1) d_method_5_0 rfl rfl ?_
    refine ifT (pc' := 8) d_method_5_1 (by decide : ¬ ((8 : Int32) = (0 : Int32))) (by decide) rfl ?_
    refine iloadN (pc' := 9) d_method_5_8 rfl rfl ?_
    refine iconst (pc' := 10) (v := (1 : Int32)) d_method_5_9 rfl rfl ?_
    refine icmpT (pc' := 23) d_method_5_10 (by decide : ¬ ((8 : Int32) = (1 : Int32))) (by decide) rfl ?_
    refine iloadN (pc' := 24) d_method_5_23 rfl rfl ?_
    refine iconst (pc' := 25) (v := (2 : Int32)) d_method_5_24 rfl rfl ?_
    refine icmpT (pc' := 44) d_method_5_25 (by decide : ¬ ((8 : Int32) = (2 : Int32))) (by decide) rfl ?_
    refine iloadN (pc' := 45) d_method_5_44 rfl rfl ?_
    refine iconst (pc' := 46) (v := (3 : Int32)) d_method_5_45 rfl rfl ?_
    refine icmpT (pc' := 71) d_method_5_46 (by decide : ¬ ((8 : Int32) = (3 : Int32))) (by decide) rfl ?_
    refine iloadN (pc' := 72) d_method_5_71 rfl rfl ?_
    refine iconst (pc' := 73) (v := (4 : Int32)) d_method_5_72 rfl rfl ?_
    refine icmpT (pc' := 104) d_method_5_73 (by decide : ¬ ((8 : Int32) = (4 : Int32))) (by decide) rfl ?_
    refine iloadN (pc' := 105) d_method_5_104 rfl rfl ?_
    refine iconst (pc' := 106) (v := (5 : Int32)) d_method_5_105 rfl rfl ?_
    refine icmpT (pc' := 143) d_method_5_106 (by decide : ¬ ((8 : Int32) = (5 : Int32))) (by decide) rfl ?_
    refine iloadN (pc' := 144) d_method_5_143 rfl rfl ?_
    refine bipush (pc' := 146) (v := (6 : Int32)) d_method_5_144 rfl rfl ?_
    refine icmpT (pc' := 190) d_method_5_146 (by decide : ¬ ((8 : Int32) = (6 : Int32))) (by decide) rfl ?_
    refine iloadN (pc' := 191) d_method_5_190 rfl rfl ?_
    refine bipush (pc' := 193) (v := (7 : Int32)) d_method_5_191 rfl rfl ?_
    refine icmpT (pc' := 245) d_method_5_193 (by decide : ¬ ((8 : Int32) = (7 : Int32))) (by decide) rfl ?_
    refine iloadN (pc' := 246) d_method_5_245 rfl rfl ?_
    refine bipush (pc' := 248) (v := (8 : Int32)) d_method_5_246 rfl rfl ?_
    refine icmpF (pc' := 251) d_method_5_248 (by decide : (8 : Int32) = (8 : Int32)) rfl ?_
    refine bipush (pc' := 253) (v := (8 : Int32)) d_method_5_251 rfl rfl ?_
    refine newarray (i := 25) (cap := 8) (ty := .char) (pc' := 255) d_method_5_253 rfl rfl (by decide) (by decide) (by decide) (by decide) (by decide) rfl fun h227 a228 kc232 g229 E230 V231 => ?_
    have sz_a228 : h.size ≤ a228 := by rw [g229]; exact K.1
    have ne_b_a228 : b ≠ a228 := Nat.ne_of_lt (by rw [g229]; exact Ab.lt)
    replace K := K.ext E230
    replace Ab := Ab.ext E230
    replace V231 : Arv Z h227 a228 kc232 .char (8 : Int32) [(.int (0 : Int32)), (.int (0 : Int32)), (.int (0 : Int32)), (.int (0 : Int32)), (.int (0 : Int32)), (.int (0 : Int32)), (.int (0 : Int32)), (.int (0 : Int32))] (.int (0 : Int32)) := V231.pad (pad_rep [] (.int (0 : Int32)) 8)
    refine dup (pc' := 256) d_method_5_255 rfl rfl ?_
    refine iconst (pc' := 257) (v := (0 : Int32)) d_method_5_256 rfl rfl ?_
    refine aloadN (pc' := 258) d_method_5_257 rfl rfl rfl ?_
    refine iconst (pc' := 259) (v := (0 : Int32)) d_method_5_258 rfl rfl ?_
    refine caload (v := .int d0) (pc' := 260) d_method_5_259 Ab ⟨by decide, by decide⟩ rfl rfl ?_
    refine castore (pc' := 261) d_method_5_260 V231 ⟨by decide, by decide⟩ (by simp) (Nat.le_of_ble_eq_true rfl) rfl fun h233 W234 V235 => ?_
    replace K := K.wr W234 (Or.inr sz_a228)
    replace Ab := Ab.other W234 ne_b_a228
    replace V231 : Arv Z h233 a228 kc232 .char (8 : Int32) [(.int (nar .char d0)), (.int (0 : Int32)), (.int (0 : Int32)), (.int (0 : Int32)), (.int (0 : Int32)), (.int (0 : Int32)), (.int (0 : Int32)), (.int (0 : Int32))] (.int (0 : Int32)) := V235
    refine dup (pc' := 262) d_method_5_261 rfl rfl ?_
    refine iconst (pc' := 263) (v := (1 : Int32)) d_method_5_262 rfl rfl ?_
    refine aloadN (pc' := 264) d_method_5_263 rfl rfl rfl ?_
    refine iconst (pc' := 265) (v := (1 : Int32)) d_method_5_264 rfl rfl ?_
    refine caload (v := .int d1) (pc' := 266) d_method_5_265 Ab ⟨by decide, by decide⟩ rfl rfl ?_
    refine castore (pc' := 267) d_method_5_266 V231 ⟨by decide, by decide⟩ (by simp) (Nat.le_of_ble_eq_true rfl) rfl fun h236 W237 V238 => ?_
    replace K := K.wr W237 (Or.inr sz_a228)
    replace Ab := Ab.other W237 ne_b_a228
    replace V231 : Arv Z h236 a228 kc232 .char (8 : Int32) [(.int (nar .char d0)), (.int (nar .char d1)), (.int (0 : Int32)), (.int (0 : Int32)), (.int (0 : Int32)), (.int (0 : Int32)), (.int (0 : Int32)), (.int (0 : Int32))] (.int (0 : Int32)) := V238
    refine dup (pc' := 268) d_method_5_267 rfl rfl ?_
    refine iconst (pc' := 269) (v := (2 : Int32)) d_method_5_268 rfl rfl ?_
    refine aloadN (pc' := 270) d_method_5_269 rfl rfl rfl ?_
    refine iconst (pc' := 271) (v := (2 : Int32)) d_method_5_270 rfl rfl ?_
    refine caload (v := .int d2) (pc' := 272) d_method_5_271 Ab ⟨by decide, by decide⟩ rfl rfl ?_
    refine castore (pc' := 273) d_method_5_272 V231 ⟨by decide, by decide⟩ (by simp) (Nat.le_of_ble_eq_true rfl) rfl fun h239 W240 V241 => ?_
    replace K := K.wr W240 (Or.inr sz_a228)
    replace Ab := Ab.other W240 ne_b_a228
    replace V231 : Arv Z h239 a228 kc232 .char (8 : Int32) [(.int (nar .char d0)), (.int (nar .char d1)), (.int (nar .char d2)), (.int (0 : Int32)), (.int (0 : Int32)), (.int (0 : Int32)), (.int (0 : Int32)), (.int (0 : Int32))] (.int (0 : Int32)) := V241
    refine dup (pc' := 274) d_method_5_273 rfl rfl ?_
    refine iconst (pc' := 275) (v := (3 : Int32)) d_method_5_274 rfl rfl ?_
    refine aloadN (pc' := 276) d_method_5_275 rfl rfl rfl ?_
    refine iconst (pc' := 277) (v := (3 : Int32)) d_method_5_276 rfl rfl ?_
    refine caload (v := .int d3) (pc' := 278) d_method_5_277 Ab ⟨by decide, by decide⟩ rfl rfl ?_
    refine castore (pc' := 279) d_method_5_278 V231 ⟨by decide, by decide⟩ (by simp) (Nat.le_of_ble_eq_true rfl) rfl fun h242 W243 V244 => ?_
    replace K := K.wr W243 (Or.inr sz_a228)
    replace Ab := Ab.other W243 ne_b_a228
    replace V231 : Arv Z h242 a228 kc232 .char (8 : Int32) [(.int (nar .char d0)), (.int (nar .char d1)), (.int (nar .char d2)), (.int (nar .char d3)), (.int (0 : Int32)), (.int (0 : Int32)), (.int (0 : Int32)), (.int (0 : Int32))] (.int (0 : Int32)) := V244
    refine dup (pc' := 280) d_method_5_279 rfl rfl ?_
    refine iconst (pc' := 281) (v := (4 : Int32)) d_method_5_280 rfl rfl ?_
    refine aloadN (pc' := 282) d_method_5_281 rfl rfl rfl ?_
    refine iconst (pc' := 283) (v := (4 : Int32)) d_method_5_282 rfl rfl ?_
    refine caload (v := .int d4) (pc' := 284) d_method_5_283 Ab ⟨by decide, by decide⟩ rfl rfl ?_
    refine castore (pc' := 285) d_method_5_284 V231 ⟨by decide, by decide⟩ (by simp) (Nat.le_of_ble_eq_true rfl) rfl fun h245 W246 V247 => ?_
    replace K := K.wr W246 (Or.inr sz_a228)
    replace Ab := Ab.other W246 ne_b_a228
    replace V231 : Arv Z h245 a228 kc232 .char (8 : Int32) [(.int (nar .char d0)), (.int (nar .char d1)), (.int (nar .char d2)), (.int (nar .char d3)), (.int (nar .char d4)), (.int (0 : Int32)), (.int (0 : Int32)), (.int (0 : Int32))] (.int (0 : Int32)) := V247
    refine dup (pc' := 286) d_method_5_285 rfl rfl ?_
    refine iconst (pc' := 287) (v := (5 : Int32)) d_method_5_286 rfl rfl ?_
    refine aloadN (pc' := 288) d_method_5_287 rfl rfl rfl ?_
    refine iconst (pc' := 289) (v := (5 : Int32)) d_method_5_288 rfl rfl ?_
    refine caload (v := .int d5) (pc' := 290) d_method_5_289 Ab ⟨by decide, by decide⟩ rfl rfl ?_
    refine castore (pc' := 291) d_method_5_290 V231 ⟨by decide, by decide⟩ (by simp) (Nat.le_of_ble_eq_true rfl) rfl fun h248 W249 V250 => ?_
    replace K := K.wr W249 (Or.inr sz_a228)
    replace Ab := Ab.other W249 ne_b_a228
    replace V231 : Arv Z h248 a228 kc232 .char (8 : Int32) [(.int (nar .char d0)), (.int (nar .char d1)), (.int (nar .char d2)), (.int (nar .char d3)), (.int (nar .char d4)), (.int (nar .char d5)), (.int (0 : Int32)), (.int (0 : Int32))] (.int (0 : Int32)) := V250
    refine dup (pc' := 292) d_method_5_291 rfl rfl ?_
    refine bipush (pc' := 294) (v := (6 : Int32)) d_method_5_292 rfl rfl ?_
    refine aloadN (pc' := 295) d_method_5_294 rfl rfl rfl ?_
    refine bipush (pc' := 297) (v := (6 : Int32)) d_method_5_295 rfl rfl ?_
    refine caload (v := .int d6) (pc' := 298) d_method_5_297 Ab ⟨by decide, by decide⟩ rfl rfl ?_
    refine castore (pc' := 299) d_method_5_298 V231 ⟨by decide, by decide⟩ (by simp) (Nat.le_of_ble_eq_true rfl) rfl fun h251 W252 V253 => ?_
    replace K := K.wr W252 (Or.inr sz_a228)
    replace Ab := Ab.other W252 ne_b_a228
    replace V231 : Arv Z h251 a228 kc232 .char (8 : Int32) [(.int (nar .char d0)), (.int (nar .char d1)), (.int (nar .char d2)), (.int (nar .char d3)), (.int (nar .char d4)), (.int (nar .char d5)), (.int (nar .char d6)), (.int (0 : Int32))] (.int (0 : Int32)) := V253
    refine dup (pc' := 300) d_method_5_299 rfl rfl ?_
    refine bipush (pc' := 302) (v := (7 : Int32)) d_method_5_300 rfl rfl ?_
    refine aloadN (pc' := 303) d_method_5_302 rfl rfl rfl ?_
    refine bipush (pc' := 305) (v := (7 : Int32)) d_method_5_303 rfl rfl ?_
    refine caload (v := .int d7) (pc' := 306) d_method_5_305 Ab ⟨by decide, by decide⟩ rfl rfl ?_
    refine castore (pc' := 307) d_method_5_306 V231 ⟨by decide, by decide⟩ (by simp) (Nat.le_of_ble_eq_true rfl) rfl fun h254 W255 V256 => ?_
    replace K := K.wr W255 (Or.inr sz_a228)
    replace Ab := Ab.other W255 ne_b_a228
    replace V231 : Arv Z h254 a228 kc232 .char (8 : Int32) [(.int (nar .char d0)), (.int (nar .char d1)), (.int (nar .char d2)), (.int (nar .char d3)), (.int (nar .char d4)), (.int (nar .char d5)), (.int (nar .char d6)), (.int (nar .char d7))] (.int (0 : Int32)) := V256
    have q := V231
    rw [own_nar hd0, own_nar hd1, own_nar hd2, own_nar hd3, own_nar hd4, own_nar hd5, own_nar hd6, own_nar hd7] at q
    exact retA d_method_5_307 rfl rfl rfl (by decide) (by decide) ⟨a228, kc232, ([d0, d1, d2, d3, d4, d5, d6, d7] : List Int32), rfl, keepExt K, by show 8 < 12; decide, by intro c hc; simp only [List.mem_cons, List.not_mem_nil, or_false] at hc; rcases hc with rfl | rfl | rfl | rfl | rfl | rfl | rfl | rfl <;> assumption, q⟩
  · skip
    refine at' (ce' := 0) (sl' := 0) (pc' := 0) (L' := #[.val (.ref b), .val (.int (9 : Int32))]) (S' := []) rfl rfl rfl rfl rfl ?_
    refine iloadN (pc' := 1) d_method_5_0 rfl rfl ?_
    refine ifT (pc' := 8) d_method_5_1 (by decide : ¬ ((9 : Int32) = (0 : Int32))) (by decide) rfl ?_
    refine iloadN (pc' := 9) d_method_5_8 rfl rfl ?_
    refine iconst (pc' := 10) (v := (1 : Int32)) d_method_5_9 rfl rfl ?_
    refine icmpT (pc' := 23) d_method_5_10 (by decide : ¬ ((9 : Int32) = (1 : Int32))) (by decide) rfl ?_
    refine iloadN (pc' := 24) d_method_5_23 rfl rfl ?_
    refine iconst (pc' := 25) (v := (2 : Int32)) d_method_5_24 rfl rfl ?_
    refine icmpT (pc' := 44) d_method_5_25 (by decide : ¬ ((9 : Int32) = (2 : Int32))) (by decide) rfl ?_
    refine iloadN (pc' := 45) d_method_5_44 rfl rfl ?_
    refine iconst (pc' := 46) (v := (3 : Int32)) d_method_5_45 rfl rfl ?_
    refine icmpT (pc' := 71) d_method_5_46 (by decide : ¬ ((9 : Int32) = (3 : Int32))) (by decide) rfl ?_
    refine iloadN (pc' := 72) d_method_5_71 rfl rfl ?_
    refine iconst (pc' := 73) (v := (4 : Int32)) d_method_5_72 rfl rfl ?_
    refine icmpT (pc' := 104) d_method_5_73 (by decide : ¬ ((9 : Int32) = (4 : Int32))) (by decide) rfl ?_
    refine iloadN (pc' := 105) d_method_5_104 rfl rfl ?_
    refine iconst (pc' := 106) (v := (5 : Int32)) d_method_5_105 rfl rfl ?_
    refine icmpT (pc' := 143) d_method_5_106 (by decide : ¬ ((9 : Int32) = (5 : Int32))) (by decide) rfl ?_
    refine iloadN (pc' := 144) d_method_5_143 rfl rfl ?_
    refine bipush (pc' := 146) (v := (6 : Int32)) d_method_5_144 rfl rfl ?_
    refine icmpT (pc' := 190) d_method_5_146 (by decide : ¬ ((9 : Int32) = (6 : Int32))) (by decide) rfl ?_
    refine iloadN (pc' := 191) d_method_5_190 rfl rfl ?_
    refine bipush (pc' := 193) (v := (7 : Int32)) d_method_5_191 rfl rfl ?_
    refine icmpT (pc' := 245) d_method_5_193 (by decide : ¬ ((9 : Int32) = (7 : Int32))) (by decide) rfl ?_
    refine iloadN (pc' := 246) d_method_5_245 rfl rfl ?_
    refine bipush (pc' := 248) (v := (8 : Int32)) d_method_5_246 rfl rfl ?_
    refine icmpT (pc' := 308) d_method_5_248 (by decide : ¬ ((9 : Int32) = (8 : Int32))) (by decide) rfl ?_
    refine iloadN (pc' := 309) d_method_5_308 rfl rfl ?_
    refine bipush (pc' := 311) (v := (9 : Int32)) d_method_5_309 rfl rfl ?_
    refine icmpF (pc' := 314) d_method_5_311 (by decide : (9 : Int32) = (9 : Int32)) rfl ?_
    refine bipush (pc' := 316) (v := (9 : Int32)) d_method_5_314 rfl rfl ?_
    refine newarray (i := 25) (cap := 9) (ty := .char) (pc' := 318) d_method_5_316 rfl rfl (by decide) (by decide) (by decide) (by decide) (by decide) rfl fun h257 a258 kc262 g259 E260 V261 => ?_
    have sz_a258 : h.size ≤ a258 := by rw [g259]; exact K.1
    have ne_b_a258 : b ≠ a258 := Nat.ne_of_lt (by rw [g259]; exact Ab.lt)
    replace K := K.ext E260
    replace Ab := Ab.ext E260
    replace V261 : Arv Z h257 a258 kc262 .char (9 : Int32) [(.int (0 : Int32)), (.int (0 : Int32)), (.int (0 : Int32)), (.int (0 : Int32)), (.int (0 : Int32)), (.int (0 : Int32)), (.int (0 : Int32)), (.int (0 : Int32)), (.int (0 : Int32))] (.int (0 : Int32)) := V261.pad (pad_rep [] (.int (0 : Int32)) 9)
    refine dup (pc' := 319) d_method_5_318 rfl rfl ?_
    refine iconst (pc' := 320) (v := (0 : Int32)) d_method_5_319 rfl rfl ?_
    refine aloadN (pc' := 321) d_method_5_320 rfl rfl rfl ?_
    refine iconst (pc' := 322) (v := (0 : Int32)) d_method_5_321 rfl rfl ?_
    refine caload (v := .int d0) (pc' := 323) d_method_5_322 Ab ⟨by decide, by decide⟩ rfl rfl ?_
    refine castore (pc' := 324) d_method_5_323 V261 ⟨by decide, by decide⟩ (by simp) (Nat.le_of_ble_eq_true rfl) rfl fun h263 W264 V265 => ?_
    replace K := K.wr W264 (Or.inr sz_a258)
    replace Ab := Ab.other W264 ne_b_a258
    replace V261 : Arv Z h263 a258 kc262 .char (9 : Int32) [(.int (nar .char d0)), (.int (0 : Int32)), (.int (0 : Int32)), (.int (0 : Int32)), (.int (0 : Int32)), (.int (0 : Int32)), (.int (0 : Int32)), (.int (0 : Int32)), (.int (0 : Int32))] (.int (0 : Int32)) := V265
    refine dup (pc' := 325) d_method_5_324 rfl rfl ?_
    refine iconst (pc' := 326) (v := (1 : Int32)) d_method_5_325 rfl rfl ?_
    refine aloadN (pc' := 327) d_method_5_326 rfl rfl rfl ?_
    refine iconst (pc' := 328) (v := (1 : Int32)) d_method_5_327 rfl rfl ?_
    refine caload (v := .int d1) (pc' := 329) d_method_5_328 Ab ⟨by decide, by decide⟩ rfl rfl ?_
    refine castore (pc' := 330) d_method_5_329 V261 ⟨by decide, by decide⟩ (by simp) (Nat.le_of_ble_eq_true rfl) rfl fun h266 W267 V268 => ?_
    replace K := K.wr W267 (Or.inr sz_a258)
    replace Ab := Ab.other W267 ne_b_a258
    replace V261 : Arv Z h266 a258 kc262 .char (9 : Int32) [(.int (nar .char d0)), (.int (nar .char d1)), (.int (0 : Int32)), (.int (0 : Int32)), (.int (0 : Int32)), (.int (0 : Int32)), (.int (0 : Int32)), (.int (0 : Int32)), (.int (0 : Int32))] (.int (0 : Int32)) := V268
    refine dup (pc' := 331) d_method_5_330 rfl rfl ?_
    refine iconst (pc' := 332) (v := (2 : Int32)) d_method_5_331 rfl rfl ?_
    refine aloadN (pc' := 333) d_method_5_332 rfl rfl rfl ?_
    refine iconst (pc' := 334) (v := (2 : Int32)) d_method_5_333 rfl rfl ?_
    refine caload (v := .int d2) (pc' := 335) d_method_5_334 Ab ⟨by decide, by decide⟩ rfl rfl ?_
    refine castore (pc' := 336) d_method_5_335 V261 ⟨by decide, by decide⟩ (by simp) (Nat.le_of_ble_eq_true rfl) rfl fun h269 W270 V271 => ?_
    replace K := K.wr W270 (Or.inr sz_a258)
    replace Ab := Ab.other W270 ne_b_a258
    replace V261 : Arv Z h269 a258 kc262 .char (9 : Int32) [(.int (nar .char d0)), (.int (nar .char d1)), (.int (nar .char d2)), (.int (0 : Int32)), (.int (0 : Int32)), (.int (0 : Int32)), (.int (0 : Int32)), (.int (0 : Int32)), (.int (0 : Int32))] (.int (0 : Int32)) := V271
    refine dup (pc' := 337) d_method_5_336 rfl rfl ?_
    refine iconst (pc' := 338) (v := (3 : Int32)) d_method_5_337 rfl rfl ?_
    refine aloadN (pc' := 339) d_method_5_338 rfl rfl rfl ?_
    refine iconst (pc' := 340) (v := (3 : Int32)) d_method_5_339 rfl rfl ?_
    refine caload (v := .int d3) (pc' := 341) d_method_5_340 Ab ⟨by decide, by decide⟩ rfl rfl ?_
    refine castore (pc' := 342) d_method_5_341 V261 ⟨by decide, by decide⟩ (by simp) (Nat.le_of_ble_eq_true rfl) rfl fun h272 W273 V274 => ?_
    replace K := K.wr W273 (Or.inr sz_a258)
    replace Ab := Ab.other W273 ne_b_a258
    replace V261 : Arv Z h272 a258 kc262 .char (9 : Int32) [(.int (nar .char d0)), (.int (nar .char d1)), (.int (nar .char d2)), (.int (nar .char d3)), (.int (0 : Int32)), (.int (0 : Int32)), (.int (0 : Int32)), (.int (0 : Int32)), (.int (0 : Int32))] (.int (0 : Int32)) := V274
    refine dup (pc' := 343) d_method_5_342 rfl rfl ?_
    refine iconst (pc' := 344) (v := (4 : Int32)) d_method_5_343 rfl rfl ?_
    refine aloadN (pc' := 345) d_method_5_344 rfl rfl rfl ?_
    refine iconst (pc' := 346) (v := (4 : Int32)) d_method_5_345 rfl rfl ?_
    refine caload (v := .int d4) (pc' := 347) d_method_5_346 Ab ⟨by decide, by decide⟩ rfl rfl ?_
    refine castore (pc' := 348) d_method_5_347 V261 ⟨by decide, by decide⟩ (by simp) (Nat.le_of_ble_eq_true rfl) rfl fun h275 W276 V277 => ?_
    replace K := K.wr W276 (Or.inr sz_a258)
    replace Ab := Ab.other W276 ne_b_a258
    replace V261 : Arv Z h275 a258 kc262 .char (9 : Int32) [(.int (nar .char d0)), (.int (nar .char d1)), (.int (nar .char d2)), (.int (nar .char d3)), (.int (nar .char d4)), (.int (0 : Int32)), (.int (0 : Int32)), (.int (0 : Int32)), (.int (0 : Int32))] (.int (0 : Int32)) := V277
    refine dup (pc' := 349) d_method_5_348 rfl rfl ?_
    refine iconst (pc' := 350) (v := (5 : Int32)) d_method_5_349 rfl rfl ?_
    refine aloadN (pc' := 351) d_method_5_350 rfl rfl rfl ?_
    refine iconst (pc' := 352) (v := (5 : Int32)) d_method_5_351 rfl rfl ?_
    refine caload (v := .int d5) (pc' := 353) d_method_5_352 Ab ⟨by decide, by decide⟩ rfl rfl ?_
    refine castore (pc' := 354) d_method_5_353 V261 ⟨by decide, by decide⟩ (by simp) (Nat.le_of_ble_eq_true rfl) rfl fun h278 W279 V280 => ?_
    replace K := K.wr W279 (Or.inr sz_a258)
    replace Ab := Ab.other W279 ne_b_a258
    replace V261 : Arv Z h278 a258 kc262 .char (9 : Int32) [(.int (nar .char d0)), (.int (nar .char d1)), (.int (nar .char d2)), (.int (nar .char d3)), (.int (nar .char d4)), (.int (nar .char d5)), (.int (0 : Int32)), (.int (0 : Int32)), (.int (0 : Int32))] (.int (0 : Int32)) := V280
    refine dup (pc' := 355) d_method_5_354 rfl rfl ?_
    refine bipush (pc' := 357) (v := (6 : Int32)) d_method_5_355 rfl rfl ?_
    refine aloadN (pc' := 358) d_method_5_357 rfl rfl rfl ?_
    refine bipush (pc' := 360) (v := (6 : Int32)) d_method_5_358 rfl rfl ?_
    refine caload (v := .int d6) (pc' := 361) d_method_5_360 Ab ⟨by decide, by decide⟩ rfl rfl ?_
    refine castore (pc' := 362) d_method_5_361 V261 ⟨by decide, by decide⟩ (by simp) (Nat.le_of_ble_eq_true rfl) rfl fun h281 W282 V283 => ?_
    replace K := K.wr W282 (Or.inr sz_a258)
    replace Ab := Ab.other W282 ne_b_a258
    replace V261 : Arv Z h281 a258 kc262 .char (9 : Int32) [(.int (nar .char d0)), (.int (nar .char d1)), (.int (nar .char d2)), (.int (nar .char d3)), (.int (nar .char d4)), (.int (nar .char d5)), (.int (nar .char d6)), (.int (0 : Int32)), (.int (0 : Int32))] (.int (0 : Int32)) := V283
    refine dup (pc' := 363) d_method_5_362 rfl rfl ?_
    refine bipush (pc' := 365) (v := (7 : Int32)) d_method_5_363 rfl rfl ?_
    refine aloadN (pc' := 366) d_method_5_365 rfl rfl rfl ?_
    refine bipush (pc' := 368) (v := (7 : Int32)) d_method_5_366 rfl rfl ?_
    refine caload (v := .int d7) (pc' := 369) d_method_5_368 Ab ⟨by decide, by decide⟩ rfl rfl ?_
    refine castore (pc' := 370) d_method_5_369 V261 ⟨by decide, by decide⟩ (by simp) (Nat.le_of_ble_eq_true rfl) rfl fun h284 W285 V286 => ?_
    replace K := K.wr W285 (Or.inr sz_a258)
    replace Ab := Ab.other W285 ne_b_a258
    replace V261 : Arv Z h284 a258 kc262 .char (9 : Int32) [(.int (nar .char d0)), (.int (nar .char d1)), (.int (nar .char d2)), (.int (nar .char d3)), (.int (nar .char d4)), (.int (nar .char d5)), (.int (nar .char d6)), (.int (nar .char d7)), (.int (0 : Int32))] (.int (0 : Int32)) := V286
    refine dup (pc' := 371) d_method_5_370 rfl rfl ?_
    refine bipush (pc' := 373) (v := (8 : Int32)) d_method_5_371 rfl rfl ?_
    refine aloadN (pc' := 374) d_method_5_373 rfl rfl rfl ?_
    refine bipush (pc' := 376) (v := (8 : Int32)) d_method_5_374 rfl rfl ?_
    refine caload (v := .int d8) (pc' := 377) d_method_5_376 Ab ⟨by decide, by decide⟩ rfl rfl ?_
    refine castore (pc' := 378) d_method_5_377 V261 ⟨by decide, by decide⟩ (by simp) (Nat.le_of_ble_eq_true rfl) rfl fun h287 W288 V289 => ?_
    replace K := K.wr W288 (Or.inr sz_a258)
    replace Ab := Ab.other W288 ne_b_a258
    replace V261 : Arv Z h287 a258 kc262 .char (9 : Int32) [(.int (nar .char d0)), (.int (nar .char d1)), (.int (nar .char d2)), (.int (nar .char d3)), (.int (nar .char d4)), (.int (nar .char d5)), (.int (nar .char d6)), (.int (nar .char d7)), (.int (nar .char d8))] (.int (0 : Int32)) := V289
    have q := V261
    rw [own_nar hd0, own_nar hd1, own_nar hd2, own_nar hd3, own_nar hd4, own_nar hd5, own_nar hd6, own_nar hd7, own_nar hd8] at q
    exact retA d_method_5_378 rfl rfl rfl (by decide) (by decide) ⟨a258, kc262, ([d0, d1, d2, d3, d4, d5, d6, d7, d8] : List Int32), rfl, keepExt K, by show 9 < 12; decide, by intro c hc; simp only [List.mem_cons, List.not_mem_nil, or_false] at hc; rcases hc with rfl | rfl | rfl | rfl | rfl | rfl | rfl | rfl | rfl <;> assumption, q⟩
  · skip
    refine at' (ce' := 0) (sl' := 0) (pc' := 0) (L' := #[.val (.ref b), .val (.int (10 : Int32))]) (S' := []) rfl rfl rfl rfl rfl ?_
    refine iloadN (pc' := 1) d_method_5_0 rfl rfl ?_
    refine ifT (pc' := 8) d_method_5_1 (by decide : ¬ ((10 : Int32) = (0 : Int32))) (by decide) rfl ?_
    refine iloadN (pc' := 9) d_method_5_8 rfl rfl ?_
    refine iconst (pc' := 10) (v := (1 : Int32)) d_method_5_9 rfl rfl ?_
    refine icmpT (pc' := 23) d_method_5_10 (by decide : ¬ ((10 : Int32) = (1 : Int32))) (by decide) rfl ?_
    refine iloadN (pc' := 24) d_method_5_23 rfl rfl ?_
    refine iconst (pc' := 25) (v := (2 : Int32)) d_method_5_24 rfl rfl ?_
    refine icmpT (pc' := 44) d_method_5_25 (by decide : ¬ ((10 : Int32) = (2 : Int32))) (by decide) rfl ?_
    refine iloadN (pc' := 45) d_method_5_44 rfl rfl ?_
    refine iconst (pc' := 46) (v := (3 : Int32)) d_method_5_45 rfl rfl ?_
    refine icmpT (pc' := 71) d_method_5_46 (by decide : ¬ ((10 : Int32) = (3 : Int32))) (by decide) rfl ?_
    refine iloadN (pc' := 72) d_method_5_71 rfl rfl ?_
    refine iconst (pc' := 73) (v := (4 : Int32)) d_method_5_72 rfl rfl ?_
    refine icmpT (pc' := 104) d_method_5_73 (by decide : ¬ ((10 : Int32) = (4 : Int32))) (by decide) rfl ?_
    refine iloadN (pc' := 105) d_method_5_104 rfl rfl ?_
    refine iconst (pc' := 106) (v := (5 : Int32)) d_method_5_105 rfl rfl ?_
    refine icmpT (pc' := 143) d_method_5_106 (by decide : ¬ ((10 : Int32) = (5 : Int32))) (by decide) rfl ?_
    refine iloadN (pc' := 144) d_method_5_143 rfl rfl ?_
    refine bipush (pc' := 146) (v := (6 : Int32)) d_method_5_144 rfl rfl ?_
    refine icmpT (pc' := 190) d_method_5_146 (by decide : ¬ ((10 : Int32) = (6 : Int32))) (by decide) rfl ?_
    refine iloadN (pc' := 191) d_method_5_190 rfl rfl ?_
    refine bipush (pc' := 193) (v := (7 : Int32)) d_method_5_191 rfl rfl ?_
    refine icmpT (pc' := 245) d_method_5_193 (by decide : ¬ ((10 : Int32) = (7 : Int32))) (by decide) rfl ?_
    refine iloadN (pc' := 246) d_method_5_245 rfl rfl ?_
    refine bipush (pc' := 248) (v := (8 : Int32)) d_method_5_246 rfl rfl ?_
    refine icmpT (pc' := 308) d_method_5_248 (by decide : ¬ ((10 : Int32) = (8 : Int32))) (by decide) rfl ?_
    refine iloadN (pc' := 309) d_method_5_308 rfl rfl ?_
    refine bipush (pc' := 311) (v := (9 : Int32)) d_method_5_309 rfl rfl ?_
    refine icmpT (pc' := 379) d_method_5_311 (by decide : ¬ ((10 : Int32) = (9 : Int32))) (by decide) rfl ?_
    refine iloadN (pc' := 380) d_method_5_379 rfl rfl ?_
    refine bipush (pc' := 382) (v := (10 : Int32)) d_method_5_380 rfl rfl ?_
    refine icmpF (pc' := 385) d_method_5_382 (by decide : (10 : Int32) = (10 : Int32)) rfl ?_
    refine bipush (pc' := 387) (v := (10 : Int32)) d_method_5_385 rfl rfl ?_
    refine newarray (i := 25) (cap := 10) (ty := .char) (pc' := 389) d_method_5_387 rfl rfl (by decide) (by decide) (by decide) (by decide) (by decide) rfl fun h290 a291 kc295 g292 E293 V294 => ?_
    have sz_a291 : h.size ≤ a291 := by rw [g292]; exact K.1
    have ne_b_a291 : b ≠ a291 := Nat.ne_of_lt (by rw [g292]; exact Ab.lt)
    replace K := K.ext E293
    replace Ab := Ab.ext E293
    replace V294 : Arv Z h290 a291 kc295 .char (10 : Int32) [(.int (0 : Int32)), (.int (0 : Int32)), (.int (0 : Int32)), (.int (0 : Int32)), (.int (0 : Int32)), (.int (0 : Int32)), (.int (0 : Int32)), (.int (0 : Int32)), (.int (0 : Int32)), (.int (0 : Int32))] (.int (0 : Int32)) := V294.pad (pad_rep [] (.int (0 : Int32)) 10)
    refine dup (pc' := 390) d_method_5_389 rfl rfl ?_
    refine iconst (pc' := 391) (v := (0 : Int32)) d_method_5_390 rfl rfl ?_
    refine aloadN (pc' := 392) d_method_5_391 rfl rfl rfl ?_
    refine iconst (pc' := 393) (v := (0 : Int32)) d_method_5_392 rfl rfl ?_
    refine caload (v := .int d0) (pc' := 394) d_method_5_393 Ab ⟨by decide, by decide⟩ rfl rfl ?_
    refine castore (pc' := 395) d_method_5_394 V294 ⟨by decide, by decide⟩ (by simp) (Nat.le_of_ble_eq_true rfl) rfl fun h296 W297 V298 => ?_
    replace K := K.wr W297 (Or.inr sz_a291)
    replace Ab := Ab.other W297 ne_b_a291
    replace V294 : Arv Z h296 a291 kc295 .char (10 : Int32) [(.int (nar .char d0)), (.int (0 : Int32)), (.int (0 : Int32)), (.int (0 : Int32)), (.int (0 : Int32)), (.int (0 : Int32)), (.int (0 : Int32)), (.int (0 : Int32)), (.int (0 : Int32)), (.int (0 : Int32))] (.int (0 : Int32)) := V298
    refine dup (pc' := 396) d_method_5_395 rfl rfl ?_
    refine iconst (pc' := 397) (v := (1 : Int32)) d_method_5_396 rfl rfl ?_
    refine aloadN (pc' := 398) d_method_5_397 rfl rfl rfl ?_
    refine iconst (pc' := 399) (v := (1 : Int32)) d_method_5_398 rfl rfl ?_
    refine caload (v := .int d1) (pc' := 400) d_method_5_399 Ab ⟨by decide, by decide⟩ rfl rfl ?_
    refine castore (pc' := 401) d_method_5_400 V294 ⟨by decide, by decide⟩ (by simp) (Nat.le_of_ble_eq_true rfl) rfl fun h299 W300 V301 => ?_
    replace K := K.wr W300 (Or.inr sz_a291)
    replace Ab := Ab.other W300 ne_b_a291
    replace V294 : Arv Z h299 a291 kc295 .char (10 : Int32) [(.int (nar .char d0)), (.int (nar .char d1)), (.int (0 : Int32)), (.int (0 : Int32)), (.int (0 : Int32)), (.int (0 : Int32)), (.int (0 : Int32)), (.int (0 : Int32)), (.int (0 : Int32)), (.int (0 : Int32))] (.int (0 : Int32)) := V301
    refine dup (pc' := 402) d_method_5_401 rfl rfl ?_
    refine iconst (pc' := 403) (v := (2 : Int32)) d_method_5_402 rfl rfl ?_
    refine aloadN (pc' := 404) d_method_5_403 rfl rfl rfl ?_
    refine iconst (pc' := 405) (v := (2 : Int32)) d_method_5_404 rfl rfl ?_
    refine caload (v := .int d2) (pc' := 406) d_method_5_405 Ab ⟨by decide, by decide⟩ rfl rfl ?_
    refine castore (pc' := 407) d_method_5_406 V294 ⟨by decide, by decide⟩ (by simp) (Nat.le_of_ble_eq_true rfl) rfl fun h302 W303 V304 => ?_
    replace K := K.wr W303 (Or.inr sz_a291)
    replace Ab := Ab.other W303 ne_b_a291
    replace V294 : Arv Z h302 a291 kc295 .char (10 : Int32) [(.int (nar .char d0)), (.int (nar .char d1)), (.int (nar .char d2)), (.int (0 : Int32)), (.int (0 : Int32)), (.int (0 : Int32)), (.int (0 : Int32)), (.int (0 : Int32)), (.int (0 : Int32)), (.int (0 : Int32))] (.int (0 : Int32)) := V304
    refine dup (pc' := 408) d_method_5_407 rfl rfl ?_
    refine iconst (pc' := 409) (v := (3 : Int32)) d_method_5_408 rfl rfl ?_
    refine aloadN (pc' := 410) d_method_5_409 rfl rfl rfl ?_
    refine iconst (pc' := 411) (v := (3 : Int32)) d_method_5_410 rfl rfl ?_
    refine caload (v := .int d3) (pc' := 412) d_method_5_411 Ab ⟨by decide, by decide⟩ rfl rfl ?_
    refine castore (pc' := 413) d_method_5_412 V294 ⟨by decide, by decide⟩ (by simp) (Nat.le_of_ble_eq_true rfl) rfl fun h305 W306 V307 => ?_
    replace K := K.wr W306 (Or.inr sz_a291)
    replace Ab := Ab.other W306 ne_b_a291
    replace V294 : Arv Z h305 a291 kc295 .char (10 : Int32) [(.int (nar .char d0)), (.int (nar .char d1)), (.int (nar .char d2)), (.int (nar .char d3)), (.int (0 : Int32)), (.int (0 : Int32)), (.int (0 : Int32)), (.int (0 : Int32)), (.int (0 : Int32)), (.int (0 : Int32))] (.int (0 : Int32)) := V307
    refine dup (pc' := 414) d_method_5_413 rfl rfl ?_
    refine iconst (pc' := 415) (v := (4 : Int32)) d_method_5_414 rfl rfl ?_
    refine aloadN (pc' := 416) d_method_5_415 rfl rfl rfl ?_
    refine iconst (pc' := 417) (v := (4 : Int32)) d_method_5_416 rfl rfl ?_
    refine caload (v := .int d4) (pc' := 418) d_method_5_417 Ab ⟨by decide, by decide⟩ rfl rfl ?_
    refine castore (pc' := 419) d_method_5_418 V294 ⟨by decide, by decide⟩ (by simp) (Nat.le_of_ble_eq_true rfl) rfl fun h308 W309 V310 => ?_
    replace K := K.wr W309 (Or.inr sz_a291)
    replace Ab := Ab.other W309 ne_b_a291
    replace V294 : Arv Z h308 a291 kc295 .char (10 : Int32) [(.int (nar .char d0)), (.int (nar .char d1)), (.int (nar .char d2)), (.int (nar .char d3)), (.int (nar .char d4)), (.int (0 : Int32)), (.int (0 : Int32)), (.int (0 : Int32)), (.int (0 : Int32)), (.int (0 : Int32))] (.int (0 : Int32)) := V310
    refine dup (pc' := 420) d_method_5_419 rfl rfl ?_
    refine iconst (pc' := 421) (v := (5 : Int32)) d_method_5_420 rfl rfl ?_
    refine aloadN (pc' := 422) d_method_5_421 rfl rfl rfl ?_
    refine iconst (pc' := 423) (v := (5 : Int32)) d_method_5_422 rfl rfl ?_
    refine caload (v := .int d5) (pc' := 424) d_method_5_423 Ab ⟨by decide, by decide⟩ rfl rfl ?_
    refine castore (pc' := 425) d_method_5_424 V294 ⟨by decide, by decide⟩ (by simp) (Nat.le_of_ble_eq_true rfl) rfl fun h311 W312 V313 => ?_
    replace K := K.wr W312 (Or.inr sz_a291)
    replace Ab := Ab.other W312 ne_b_a291
    replace V294 : Arv Z h311 a291 kc295 .char (10 : Int32) [(.int (nar .char d0)), (.int (nar .char d1)), (.int (nar .char d2)), (.int (nar .char d3)), (.int (nar .char d4)), (.int (nar .char d5)), (.int (0 : Int32)), (.int (0 : Int32)), (.int (0 : Int32)), (.int (0 : Int32))] (.int (0 : Int32)) := V313
    refine dup (pc' := 426) d_method_5_425 rfl rfl ?_
    refine bipush (pc' := 428) (v := (6 : Int32)) d_method_5_426 rfl rfl ?_
    refine aloadN (pc' := 429) d_method_5_428 rfl rfl rfl ?_
    refine bipush (pc' := 431) (v := (6 : Int32)) d_method_5_429 rfl rfl ?_
    refine caload (v := .int d6) (pc' := 432) d_method_5_431 Ab ⟨by decide, by decide⟩ rfl rfl ?_
    refine castore (pc' := 433) d_method_5_432 V294 ⟨by decide, by decide⟩ (by simp) (Nat.le_of_ble_eq_true rfl) rfl fun h314 W315 V316 => ?_
    replace K := K.wr W315 (Or.inr sz_a291)
    replace Ab := Ab.other W315 ne_b_a291
    replace V294 : Arv Z h314 a291 kc295 .char (10 : Int32) [(.int (nar .char d0)), (.int (nar .char d1)), (.int (nar .char d2)), (.int (nar .char d3)), (.int (nar .char d4)), (.int (nar .char d5)), (.int (nar .char d6)), (.int (0 : Int32)), (.int (0 : Int32)), (.int (0 : Int32))] (.int (0 : Int32)) := V316
    refine dup (pc' := 434) d_method_5_433 rfl rfl ?_
    refine bipush (pc' := 436) (v := (7 : Int32)) d_method_5_434 rfl rfl ?_
    refine aloadN (pc' := 437) d_method_5_436 rfl rfl rfl ?_
    refine bipush (pc' := 439) (v := (7 : Int32)) d_method_5_437 rfl rfl ?_
    refine caload (v := .int d7) (pc' := 440) d_method_5_439 Ab ⟨by decide, by decide⟩ rfl rfl ?_
    refine castore (pc' := 441) d_method_5_440 V294 ⟨by decide, by decide⟩ (by simp) (Nat.le_of_ble_eq_true rfl) rfl fun h317 W318 V319 => ?_
    replace K := K.wr W318 (Or.inr sz_a291)
    replace Ab := Ab.other W318 ne_b_a291
    replace V294 : Arv Z h317 a291 kc295 .char (10 : Int32) [(.int (nar .char d0)), (.int (nar .char d1)), (.int (nar .char d2)), (.int (nar .char d3)), (.int (nar .char d4)), (.int (nar .char d5)), (.int (nar .char d6)), (.int (nar .char d7)), (.int (0 : Int32)), (.int (0 : Int32))] (.int (0 : Int32)) := V319
    refine dup (pc' := 442) d_method_5_441 rfl rfl ?_
    refine bipush (pc' := 444) (v := (8 : Int32)) d_method_5_442 rfl rfl ?_
    refine aloadN (pc' := 445) d_method_5_444 rfl rfl rfl ?_
    refine bipush (pc' := 447) (v := (8 : Int32)) d_method_5_445 rfl rfl ?_
    refine caload (v := .int d8) (pc' := 448) d_method_5_447 Ab ⟨by decide, by decide⟩ rfl rfl ?_
    refine castore (pc' := 449) d_method_5_448 V294 ⟨by decide, by decide⟩ (by simp) (Nat.le_of_ble_eq_true rfl) rfl fun h320 W321 V322 => ?_
    replace K := K.wr W321 (Or.inr sz_a291)
    replace Ab := Ab.other W321 ne_b_a291
    replace V294 : Arv Z h320 a291 kc295 .char (10 : Int32) [(.int (nar .char d0)), (.int (nar .char d1)), (.int (nar .char d2)), (.int (nar .char d3)), (.int (nar .char d4)), (.int (nar .char d5)), (.int (nar .char d6)), (.int (nar .char d7)), (.int (nar .char d8)), (.int (0 : Int32))] (.int (0 : Int32)) := V322
    refine dup (pc' := 450) d_method_5_449 rfl rfl ?_
    refine bipush (pc' := 452) (v := (9 : Int32)) d_method_5_450 rfl rfl ?_
    refine aloadN (pc' := 453) d_method_5_452 rfl rfl rfl ?_
    refine bipush (pc' := 455) (v := (9 : Int32)) d_method_5_453 rfl rfl ?_
    refine caload (v := .int d9) (pc' := 456) d_method_5_455 Ab ⟨by decide, by decide⟩ rfl rfl ?_
    refine castore (pc' := 457) d_method_5_456 V294 ⟨by decide, by decide⟩ (by simp) (Nat.le_of_ble_eq_true rfl) rfl fun h323 W324 V325 => ?_
    replace K := K.wr W324 (Or.inr sz_a291)
    replace Ab := Ab.other W324 ne_b_a291
    replace V294 : Arv Z h323 a291 kc295 .char (10 : Int32) [(.int (nar .char d0)), (.int (nar .char d1)), (.int (nar .char d2)), (.int (nar .char d3)), (.int (nar .char d4)), (.int (nar .char d5)), (.int (nar .char d6)), (.int (nar .char d7)), (.int (nar .char d8)), (.int (nar .char d9))] (.int (0 : Int32)) := V325
    have q := V294
    rw [own_nar hd0, own_nar hd1, own_nar hd2, own_nar hd3, own_nar hd4, own_nar hd5, own_nar hd6, own_nar hd7, own_nar hd8, own_nar hd9] at q
    exact retA d_method_5_457 rfl rfl rfl (by decide) (by decide) ⟨a291, kc295, ([d0, d1, d2, d3, d4, d5, d6, d7, d8, d9] : List Int32), rfl, keepExt K, by show 10 < 12; decide, by intro c hc; simp only [List.mem_cons, List.not_mem_nil, or_false] at hc; rcases hc with rfl | rfl | rfl | rfl | rfl | rfl | rfl | rfl | rfl | rfl <;> assumption, q⟩
  · skip
    refine at' (ce' := 0) (sl' := 0) (pc' := 0) (L' := #[.val (.ref b), .val (.int (11 : Int32))]) (S' := []) rfl rfl rfl rfl rfl ?_
    refine iloadN (pc' := 1) d_method_5_0 rfl rfl ?_
    refine ifT (pc' := 8) d_method_5_1 (by decide : ¬ ((11 : Int32) = (0 : Int32))) (by decide) rfl ?_
    refine iloadN (pc' := 9) d_method_5_8 rfl rfl ?_
    refine iconst (pc' := 10) (v := (1 : Int32)) d_method_5_9 rfl rfl ?_
    refine icmpT (pc' := 23) d_method_5_10 (by decide : ¬ ((11 : Int32) = (1 : Int32))) (by decide) rfl ?_
    refine iloadN (pc' := 24) d_method_5_23 rfl rfl ?_
    refine iconst (pc' := 25) (v := (2 : Int32)) d_method_5_24 rfl rfl ?_
    refine icmpT (pc' := 44) d_method_5_25 (by decide : ¬ ((11 : Int32) = (2 : Int32))) (by decide) rfl ?_
    refine iloadN (pc' := 45) d_method_5_44 rfl rfl ?_
    refine iconst (pc' := 46) (v := (3 : Int32)) d_method_5_45 rfl rfl ?_
    refine icmpT (pc' := 71) d_method_5_46 (by decide : ¬ ((11 : Int32) = (3 : Int32))) (by decide) rfl ?_
    refine iloadN (pc' := 72) d_method_5_71 rfl rfl ?_
    refine iconst (pc' := 73) (v := (4 : Int32)) d_method_5_72 rfl rfl ?_
    refine icmpT (pc' := 104) d_method_5_73 (by decide : ¬ ((11 : Int32) = (4 : Int32))) (by decide) rfl ?_
    refine iloadN (pc' := 105) d_method_5_104 rfl rfl ?_
    refine iconst (pc' := 106) (v := (5 : Int32)) d_method_5_105 rfl rfl ?_
    refine icmpT (pc' := 143) d_method_5_106 (by decide : ¬ ((11 : Int32) = (5 : Int32))) (by decide) rfl ?_
    refine iloadN (pc' := 144) d_method_5_143 rfl rfl ?_
    refine bipush (pc' := 146) (v := (6 : Int32)) d_method_5_144 rfl rfl ?_
    refine icmpT (pc' := 190) d_method_5_146 (by decide : ¬ ((11 : Int32) = (6 : Int32))) (by decide) rfl ?_
    refine iloadN (pc' := 191) d_method_5_190 rfl rfl ?_
    refine bipush (pc' := 193) (v := (7 : Int32)) d_method_5_191 rfl rfl ?_
    refine icmpT (pc' := 245) d_method_5_193 (by decide : ¬ ((11 : Int32) = (7 : Int32))) (by decide) rfl ?_
    refine iloadN (pc' := 246) d_method_5_245 rfl rfl ?_
    refine bipush (pc' := 248) (v := (8 : Int32)) d_method_5_246 rfl rfl ?_
    refine icmpT (pc' := 308) d_method_5_248 (by decide : ¬ ((11 : Int32) = (8 : Int32))) (by decide) rfl ?_
    refine iloadN (pc' := 309) d_method_5_308 rfl rfl ?_
    refine bipush (pc' := 311) (v := (9 : Int32)) d_method_5_309 rfl rfl ?_
    refine icmpT (pc' := 379) d_method_5_311 (by decide : ¬ ((11 : Int32) = (9 : Int32))) (by decide) rfl ?_
    refine iloadN (pc' := 380) d_method_5_379 rfl rfl ?_
    refine bipush (pc' := 382) (v := (10 : Int32)) d_method_5_380 rfl rfl ?_
    refine icmpT (pc' := 458) d_method_5_382 (by decide : ¬ ((11 : Int32) = (10 : Int32))) (by decide) rfl ?_
    refine bipush (pc' := 460) (v := (11 : Int32)) d_method_5_458 rfl rfl ?_
    refine newarray (i := 25) (cap := 11) (ty := .char) (pc' := 462) d_method_5_460 rfl rfl (by decide) (by decide) (by decide) (by decide) (by decide) rfl fun h326 a327 kc331 g328 E329 V330 => ?_
    have sz_a327 : h.size ≤ a327 := by rw [g328]; exact K.1
    have ne_b_a327 : b ≠ a327 := Nat.ne_of_lt (by rw [g328]; exact Ab.lt)
    replace K := K.ext E329
    replace Ab := Ab.ext E329
    replace V330 : Arv Z h326 a327 kc331 .char (11 : Int32) [(.int (0 : Int32)), (.int (0 : Int32)), (.int (0 : Int32)), (.int (0 : Int32)), (.int (0 : Int32)), (.int (0 : Int32)), (.int (0 : Int32)), (.int (0 : Int32)), (.int (0 : Int32)), (.int (0 : Int32)), (.int (0 : Int32))] (.int (0 : Int32)) := V330.pad (pad_rep [] (.int (0 : Int32)) 11)
    refine dup (pc' := 463) d_method_5_462 rfl rfl ?_
    refine iconst (pc' := 464) (v := (0 : Int32)) d_method_5_463 rfl rfl ?_
    refine aloadN (pc' := 465) d_method_5_464 rfl rfl rfl ?_
    refine iconst (pc' := 466) (v := (0 : Int32)) d_method_5_465 rfl rfl ?_
    refine caload (v := .int d0) (pc' := 467) d_method_5_466 Ab ⟨by decide, by decide⟩ rfl rfl ?_
    refine castore (pc' := 468) d_method_5_467 V330 ⟨by decide, by decide⟩ (by simp) (Nat.le_of_ble_eq_true rfl) rfl fun h332 W333 V334 => ?_
    replace K := K.wr W333 (Or.inr sz_a327)
    replace Ab := Ab.other W333 ne_b_a327
    replace V330 : Arv Z h332 a327 kc331 .char (11 : Int32) [(.int (nar .char d0)), (.int (0 : Int32)), (.int (0 : Int32)), (.int (0 : Int32)), (.int (0 : Int32)), (.int (0 : Int32)), (.int (0 : Int32)), (.int (0 : Int32)), (.int (0 : Int32)), (.int (0 : Int32)), (.int (0 : Int32))] (.int (0 : Int32)) := V334
    refine dup (pc' := 469) d_method_5_468 rfl rfl ?_
    refine iconst (pc' := 470) (v := (1 : Int32)) d_method_5_469 rfl rfl ?_
    refine aloadN (pc' := 471) d_method_5_470 rfl rfl rfl ?_
    refine iconst (pc' := 472) (v := (1 : Int32)) d_method_5_471 rfl rfl ?_
    refine caload (v := .int d1) (pc' := 473) d_method_5_472 Ab ⟨by decide, by decide⟩ rfl rfl ?_
    refine castore (pc' := 474) d_method_5_473 V330 ⟨by decide, by decide⟩ (by simp) (Nat.le_of_ble_eq_true rfl) rfl fun h335 W336 V337 => ?_
    replace K := K.wr W336 (Or.inr sz_a327)
    replace Ab := Ab.other W336 ne_b_a327
    replace V330 : Arv Z h335 a327 kc331 .char (11 : Int32) [(.int (nar .char d0)), (.int (nar .char d1)), (.int (0 : Int32)), (.int (0 : Int32)), (.int (0 : Int32)), (.int (0 : Int32)), (.int (0 : Int32)), (.int (0 : Int32)), (.int (0 : Int32)), (.int (0 : Int32)), (.int (0 : Int32))] (.int (0 : Int32)) := V337
    refine dup (pc' := 475) d_method_5_474 rfl rfl ?_
    refine iconst (pc' := 476) (v := (2 : Int32)) d_method_5_475 rfl rfl ?_
    refine aloadN (pc' := 477) d_method_5_476 rfl rfl rfl ?_
    refine iconst (pc' := 478) (v := (2 : Int32)) d_method_5_477 rfl rfl ?_
    refine caload (v := .int d2) (pc' := 479) d_method_5_478 Ab ⟨by decide, by decide⟩ rfl rfl ?_
    refine castore (pc' := 480) d_method_5_479 V330 ⟨by decide, by decide⟩ (by simp) (Nat.le_of_ble_eq_true rfl) rfl fun h338 W339 V340 => ?_
    replace K := K.wr W339 (Or.inr sz_a327)
    replace Ab := Ab.other W339 ne_b_a327
    replace V330 : Arv Z h338 a327 kc331 .char (11 : Int32) [(.int (nar .char d0)), (.int (nar .char d1)), (.int (nar .char d2)), (.int (0 : Int32)), (.int (0 : Int32)), (.int (0 : Int32)), (.int (0 : Int32)), (.int (0 : Int32)), (.int (0 : Int32)), (.int (0 : Int32)), (.int (0 : Int32))] (.int (0 : Int32)) := V340
    refine dup (pc' := 481) d_method_5_480 rfl rfl ?_
    refine iconst (pc' := 482) (v := (3 : Int32)) d_method_5_481 rfl rfl ?_
    refine aloadN (pc' := 483) d_method_5_482 rfl rfl rfl ?_
    refine iconst (pc' := 484) (v := (3 : Int32)) d_method_5_483 rfl rfl ?_
    refine caload (v := .int d3) (pc' := 485) d_method_5_484 Ab ⟨by decide, by decide⟩ rfl rfl ?_
    refine castore (pc' := 486) d_method_5_485 V330 ⟨by decide, by decide⟩ (by simp) (Nat.le_of_ble_eq_true rfl) rfl fun h341 W342 V343 => ?_
    replace K := K.wr W342 (Or.inr sz_a327)
    replace Ab := Ab.other W342 ne_b_a327
    replace V330 : Arv Z h341 a327 kc331 .char (11 : Int32) [(.int (nar .char d0)), (.int (nar .char d1)), (.int (nar .char d2)), (.int (nar .char d3)), (.int (0 : Int32)), (.int (0 : Int32)), (.int (0 : Int32)), (.int (0 : Int32)), (.int (0 : Int32)), (.int (0 : Int32)), (.int (0 : Int32))] (.int (0 : Int32)) := V343
    refine dup (pc' := 487) d_method_5_486 rfl rfl ?_
    refine iconst (pc' := 488) (v := (4 : Int32)) d_method_5_487 rfl rfl ?_
    refine aloadN (pc' := 489) d_method_5_488 rfl rfl rfl ?_
    refine iconst (pc' := 490) (v := (4 : Int32)) d_method_5_489 rfl rfl ?_
    refine caload (v := .int d4) (pc' := 491) d_method_5_490 Ab ⟨by decide, by decide⟩ rfl rfl ?_
    refine castore (pc' := 492) d_method_5_491 V330 ⟨by decide, by decide⟩ (by simp) (Nat.le_of_ble_eq_true rfl) rfl fun h344 W345 V346 => ?_
    replace K := K.wr W345 (Or.inr sz_a327)
    replace Ab := Ab.other W345 ne_b_a327
    replace V330 : Arv Z h344 a327 kc331 .char (11 : Int32) [(.int (nar .char d0)), (.int (nar .char d1)), (.int (nar .char d2)), (.int (nar .char d3)), (.int (nar .char d4)), (.int (0 : Int32)), (.int (0 : Int32)), (.int (0 : Int32)), (.int (0 : Int32)), (.int (0 : Int32)), (.int (0 : Int32))] (.int (0 : Int32)) := V346
    refine dup (pc' := 493) d_method_5_492 rfl rfl ?_
    refine iconst (pc' := 494) (v := (5 : Int32)) d_method_5_493 rfl rfl ?_
    refine aloadN (pc' := 495) d_method_5_494 rfl rfl rfl ?_
    refine iconst (pc' := 496) (v := (5 : Int32)) d_method_5_495 rfl rfl ?_
    refine caload (v := .int d5) (pc' := 497) d_method_5_496 Ab ⟨by decide, by decide⟩ rfl rfl ?_
    refine castore (pc' := 498) d_method_5_497 V330 ⟨by decide, by decide⟩ (by simp) (Nat.le_of_ble_eq_true rfl) rfl fun h347 W348 V349 => ?_
    replace K := K.wr W348 (Or.inr sz_a327)
    replace Ab := Ab.other W348 ne_b_a327
    replace V330 : Arv Z h347 a327 kc331 .char (11 : Int32) [(.int (nar .char d0)), (.int (nar .char d1)), (.int (nar .char d2)), (.int (nar .char d3)), (.int (nar .char d4)), (.int (nar .char d5)), (.int (0 : Int32)), (.int (0 : Int32)), (.int (0 : Int32)), (.int (0 : Int32)), (.int (0 : Int32))] (.int (0 : Int32)) := V349
    refine dup (pc' := 499) d_method_5_498 rfl rfl ?_
    refine bipush (pc' := 501) (v := (6 : Int32)) d_method_5_499 rfl rfl ?_
    refine aloadN (pc' := 502) d_method_5_501 rfl rfl rfl ?_
    refine bipush (pc' := 504) (v := (6 : Int32)) d_method_5_502 rfl rfl ?_
    refine caload (v := .int d6) (pc' := 505) d_method_5_504 Ab ⟨by decide, by decide⟩ rfl rfl ?_
    refine castore (pc' := 506) d_method_5_505 V330 ⟨by decide, by decide⟩ (by simp) (Nat.le_of_ble_eq_true rfl) rfl fun h350 W351 V352 => ?_
    replace K := K.wr W351 (Or.inr sz_a327)
    replace Ab := Ab.other W351 ne_b_a327
    replace V330 : Arv Z h350 a327 kc331 .char (11 : Int32) [(.int (nar .char d0)), (.int (nar .char d1)), (.int (nar .char d2)), (.int (nar .char d3)), (.int (nar .char d4)), (.int (nar .char d5)), (.int (nar .char d6)), (.int (0 : Int32)), (.int (0 : Int32)), (.int (0 : Int32)), (.int (0 : Int32))] (.int (0 : Int32)) := V352
    refine dup (pc' := 507) d_method_5_506 rfl rfl ?_
    refine bipush (pc' := 509) (v := (7 : Int32)) d_method_5_507 rfl rfl ?_
    refine aloadN (pc' := 510) d_method_5_509 rfl rfl rfl ?_
    refine bipush (pc' := 512) (v := (7 : Int32)) d_method_5_510 rfl rfl ?_
    refine caload (v := .int d7) (pc' := 513) d_method_5_512 Ab ⟨by decide, by decide⟩ rfl rfl ?_
    refine castore (pc' := 514) d_method_5_513 V330 ⟨by decide, by decide⟩ (by simp) (Nat.le_of_ble_eq_true rfl) rfl fun h353 W354 V355 => ?_
    replace K := K.wr W354 (Or.inr sz_a327)
    replace Ab := Ab.other W354 ne_b_a327
    replace V330 : Arv Z h353 a327 kc331 .char (11 : Int32) [(.int (nar .char d0)), (.int (nar .char d1)), (.int (nar .char d2)), (.int (nar .char d3)), (.int (nar .char d4)), (.int (nar .char d5)), (.int (nar .char d6)), (.int (nar .char d7)), (.int (0 : Int32)), (.int (0 : Int32)), (.int (0 : Int32))] (.int (0 : Int32)) := V355
    refine dup (pc' := 515) d_method_5_514 rfl rfl ?_
    refine bipush (pc' := 517) (v := (8 : Int32)) d_method_5_515 rfl rfl ?_
    refine aloadN (pc' := 518) d_method_5_517 rfl rfl rfl ?_
    refine bipush (pc' := 520) (v := (8 : Int32)) d_method_5_518 rfl rfl ?_
    refine caload (v := .int d8) (pc' := 521) d_method_5_520 Ab ⟨by decide, by decide⟩ rfl rfl ?_
    refine castore (pc' := 522) d_method_5_521 V330 ⟨by decide, by decide⟩ (by simp) (Nat.le_of_ble_eq_true rfl) rfl fun h356 W357 V358 => ?_
    replace K := K.wr W357 (Or.inr sz_a327)
    replace Ab := Ab.other W357 ne_b_a327
    replace V330 : Arv Z h356 a327 kc331 .char (11 : Int32) [(.int (nar .char d0)), (.int (nar .char d1)), (.int (nar .char d2)), (.int (nar .char d3)), (.int (nar .char d4)), (.int (nar .char d5)), (.int (nar .char d6)), (.int (nar .char d7)), (.int (nar .char d8)), (.int (0 : Int32)), (.int (0 : Int32))] (.int (0 : Int32)) := V358
    refine dup (pc' := 523) d_method_5_522 rfl rfl ?_
    refine bipush (pc' := 525) (v := (9 : Int32)) d_method_5_523 rfl rfl ?_
    refine aloadN (pc' := 526) d_method_5_525 rfl rfl rfl ?_
    refine bipush (pc' := 528) (v := (9 : Int32)) d_method_5_526 rfl rfl ?_
    refine caload (v := .int d9) (pc' := 529) d_method_5_528 Ab ⟨by decide, by decide⟩ rfl rfl ?_
    refine castore (pc' := 530) d_method_5_529 V330 ⟨by decide, by decide⟩ (by simp) (Nat.le_of_ble_eq_true rfl) rfl fun h359 W360 V361 => ?_
    replace K := K.wr W360 (Or.inr sz_a327)
    replace Ab := Ab.other W360 ne_b_a327
    replace V330 : Arv Z h359 a327 kc331 .char (11 : Int32) [(.int (nar .char d0)), (.int (nar .char d1)), (.int (nar .char d2)), (.int (nar .char d3)), (.int (nar .char d4)), (.int (nar .char d5)), (.int (nar .char d6)), (.int (nar .char d7)), (.int (nar .char d8)), (.int (nar .char d9)), (.int (0 : Int32))] (.int (0 : Int32)) := V361
    refine dup (pc' := 531) d_method_5_530 rfl rfl ?_
    refine bipush (pc' := 533) (v := (10 : Int32)) d_method_5_531 rfl rfl ?_
    refine aloadN (pc' := 534) d_method_5_533 rfl rfl rfl ?_
    refine bipush (pc' := 536) (v := (10 : Int32)) d_method_5_534 rfl rfl ?_
    refine caload (v := .int d10) (pc' := 537) d_method_5_536 Ab ⟨by decide, by decide⟩ rfl rfl ?_
    refine castore (pc' := 538) d_method_5_537 V330 ⟨by decide, by decide⟩ (by simp) (Nat.le_of_ble_eq_true rfl) rfl fun h362 W363 V364 => ?_
    replace K := K.wr W363 (Or.inr sz_a327)
    replace Ab := Ab.other W363 ne_b_a327
    replace V330 : Arv Z h362 a327 kc331 .char (11 : Int32) [(.int (nar .char d0)), (.int (nar .char d1)), (.int (nar .char d2)), (.int (nar .char d3)), (.int (nar .char d4)), (.int (nar .char d5)), (.int (nar .char d6)), (.int (nar .char d7)), (.int (nar .char d8)), (.int (nar .char d9)), (.int (nar .char d10))] (.int (0 : Int32)) := V364
    have q := V330
    rw [own_nar hd0, own_nar hd1, own_nar hd2, own_nar hd3, own_nar hd4, own_nar hd5, own_nar hd6, own_nar hd7, own_nar hd8, own_nar hd9, own_nar hd10] at q
    exact retA d_method_5_538 rfl rfl rfl (by decide) (by decide) ⟨a327, kc331, ([d0, d1, d2, d3, d4, d5, d6, d7, d8, d9, d10] : List Int32), rfl, keepExt K, by show 11 < 12; decide, by intro c hc; simp only [List.mem_cons, List.not_mem_nil, or_false] at hc; rcases hc with rfl | rfl | rfl | rfl | rfl | rfl | rfl | rfl | rfl | rfl | rfl <;> assumption, q⟩
set_option maxRecDepth 65536 in
set_option maxHeartbeats 40000000 in
theorem law_met (l : Launch) (Z : State) (a0 : Array Value) (hw : ∀ d ∈ tables_1, d.before a0 Z = true) (hEL : EW Z a0 consts_1) (n0 : Nat) (va : Addr) (kv : ClassId) (c0 c1 c2 c3 m0 m1 m2 m3 oe : Addr) (i0 i1 i2 i3 i4 : Int32) (h : Heap)  (hE : En Z va kv c0 c1 c2 c3 m0 m1 m2 m3) (hO : Oe Z oe) (hB : Sets Z) :
    Met l false Z consts_1 n0 x code maxLocals ret room_1 tables_1 #[(.int i0), (.int i1), (.int i2), (.int i3), (.int i4)] [] h (fun v h' => v = some (.int 1)) := by
  refine Met.of_body (a0 := a0) (L0 := #[.val (.int i0), .val (.int i1), .val (.int i2), .val (.int i3), .val (.int i4), .unset, .unset, .unset, .unset, .unset, .unset, .unset, .unset, .unset]) (plainFor_of_name (by first | (simp [plainName, overriddenIn]; done) | decide +kernel)) (fun m => by first | (simp [entryFrame, mkF, argsToLocals, Value.category, maxLocals]; done) | rfl) hw hEL (by decide) ?_
  have JN : ∀ (hh : Heap) (bs b : Addr) (nn f0 st ll : Int32), Wq l false Z consts_1 a0 n0 x code maxLocals ret room_1 h (fun v h' => v = some (.int 1)) [] hh 9 100 269 #[.val (.int i0), .val (.int i1), .val (.int i2), .val (.int i3), .val (.int i4), .val (.ref bs), .val (.int nn), .val (.int f0), .val (.int st), .val (.ref b), .val (.int ll), .unset, .unset, .unset] [.null] := by
    intro hh bs b nn f0 st ll
    refine astore (pc' := 271) (L' := #[.val (.int i0), .val (.int i1), .val (.int i2), .val (.int i3), .val (.int i4), .val (.ref bs), .val (.int nn), .val (.int f0), .val (.int st), .val (.ref b), .val (.int ll), .val .null, .unset, .unset]) at_269 rfl rfl rfl ?_
    refine aload (pc' := 273) at_271 rfl rfl rfl ?_
    refine call (i := 79) (i2 := 78) (Wd := 0) (pc' := 276) (kStatic (i := 76) (i2 := 77) (i3 := 78) (i4 := 79) (argsL := [.null]) (S' := []) (Wd := 0) at_273 rfl rfl rfl rfl (by decide) rfl pd_9 rfl rfl (Nat.le_of_ble_eq_true rfl)) (rm_namedN l Z a0 hw hEL n0 va kv c0 c1 c2 c3 m0 m1 m2 m3 oe _ hE hO hB) rfl rfl (by simp) (by decide) (by decide) (by decide) (by decide) rfl fun v_ h365 P366 sz367 => ?_
    obtain ⟨a, rfl, Xa, Ea, Fa⟩ := P366
    refine at' (ce' := 11) (sl' := 105) (pc' := 276) (L' := #[.val (.int i0), .val (.int i1), .val (.int i2), .val (.int i3), .val (.int i4), .val (.ref bs), .val (.int nn), .val (.int f0), .val (.int st), .val (.ref b), .val (.int ll), .val .null, .unset, .unset]) (S' := [(.ref a)]) rfl rfl rfl rfl rfl ?_
    refine aconst_null (pc' := 277) at_276 rfl ?_
    refine call (i := 119) (i2 := 82) (Wd := 0) (pc' := 280) (kVirt (i := 115) (i2 := 116) (i3 := 118) (i4 := 117) (C := "java/util/Optional") (a := a) (argsL := [.null]) (S' := []) (Wd := 0) at_277 rfl rfl rfl rfl Ea (by decide) rfl pd_1 rfl rfl (Nat.le_of_ble_eq_true rfl)) (rm_orN l Z a0 hw hEL n0 a _ Fa) rfl rfl (by simp) (by decide) (by decide) (by decide) (by decide) rfl fun v_ h368 P369 sz370 => ?_
    obtain ⟨rfl, e371⟩ := P369
    rw [e371]
    refine at' (ce' := 11) (sl' := 105) (pc' := 280) (L' := #[.val (.int i0), .val (.int i1), .val (.int i2), .val (.int i3), .val (.int i4), .val (.ref bs), .val (.int nn), .val (.int f0), .val (.int st), .val (.ref b), .val (.int ll), .val .null, .unset, .unset]) (S' := [.null]) rfl rfl rfl rfl rfl ?_
    refine checkcastNull (pc' := 283) at_280 rfl ?_
    refine astore (pc' := 285) (L' := #[.val (.int i0), .val (.int i1), .val (.int i2), .val (.int i3), .val (.int i4), .val (.ref bs), .val (.int nn), .val (.int f0), .val (.int st), .val (.ref b), .val (.int ll), .val .null, .val .null, .unset]) at_283 rfl rfl rfl ?_
    refine ldcText (i := 4) (n := 40) (cs := ([114, 111, 117, 110, 100, 114, 111, 98, 105, 110] : List Int32)) (pc' := 287) at_285 rfl (by decide +kernel) (by decide) rfl ⟨by decide +kernel, by decide +kernel⟩ (by decide) (by decide) (by decide +kernel) (by decide) (by decide) (by decide) rfl fun hn0 tan0 TEn0 Stn0 TNn0 => ?_
    refine at' (ce' := 13) (sl' := 149) (pc' := 287) (L' := #[.val (.int i0), .val (.int i1), .val (.int i2), .val (.int i3), .val (.int i4), .val (.ref bs), .val (.int nn), .val (.int f0), .val (.int st), .val (.ref b), .val (.int ll), .val .null, .val .null, .unset]) (S' := [(.ref tan0)]) rfl rfl rfl rfl rfl ?_
    refine aload (pc' := 289) at_287 rfl rfl rfl ?_
    refine call (i := 110) (i2 := 5) (Wd := 0) (pc' := 292) (kVirt (i := 122) (i2 := 107) (i3 := 109) (i4 := 108) (C := "java/lang/String") (a := tan0) (argsL := [.null]) (S' := []) (Wd := 0) at_289 rfl rfl rfl rfl (Stn0.exa) (by decide) rfl pd_5 rfl rfl (Nat.le_of_ble_eq_true rfl)) (rm_eqN l Z a0 hw hEL n0 tan0 _) rfl rfl (by simp) (by decide) (by decide) (by decide) (by decide) rfl fun v_ h372 P373 sz374 => ?_
    obtain ⟨rfl, e375⟩ := P373
    rw [e375]
    refine at' (ce' := 13) (sl' := 149) (pc' := 292) (L' := #[.val (.int i0), .val (.int i1), .val (.int i2), .val (.int i3), .val (.int i4), .val (.ref bs), .val (.int nn), .val (.int f0), .val (.int st), .val (.ref b), .val (.int ll), .val .null, .val .null, .unset]) (S' := [(.int (0 : Int32))]) rfl rfl rfl rfl rfl ?_
    refine ifT (pc' := 303) at_292 (rfl : (0 : Int32) = (0 : Int32)) (by decide) rfl ?_
    refine ldcText (i := 123) (n := 12) (cs := ([114, 115, 118] : List Int32)) (pc' := 305) at_303 rfl (by decide +kernel) (by decide) rfl ⟨by decide +kernel, by decide +kernel⟩ (by decide) (by decide) (by decide +kernel) (by decide) (by decide) (by decide) rfl fun hn1 tan1 TEn1 Stn1 TNn1 => ?_
    refine at' (ce' := 15) (sl' := 165) (pc' := 305) (L' := #[.val (.int i0), .val (.int i1), .val (.int i2), .val (.int i3), .val (.int i4), .val (.ref bs), .val (.int nn), .val (.int f0), .val (.int st), .val (.ref b), .val (.int ll), .val .null, .val .null, .unset]) (S' := [(.ref tan1)]) rfl rfl rfl rfl rfl ?_
    refine aload (pc' := 307) at_305 rfl rfl rfl ?_
    refine call (i := 110) (i2 := 5) (Wd := 0) (pc' := 310) (kVirt (i := 122) (i2 := 107) (i3 := 109) (i4 := 108) (C := "java/lang/String") (a := tan1) (argsL := [.null]) (S' := []) (Wd := 0) at_307 rfl rfl rfl rfl (Stn1.exa) (by decide) rfl pd_5 rfl rfl (Nat.le_of_ble_eq_true rfl)) (rm_eqN l Z a0 hw hEL n0 tan1 _) rfl rfl (by simp) (by decide) (by decide) (by decide) (by decide) rfl fun v_ h376 P377 sz378 => ?_
    obtain ⟨rfl, e379⟩ := P377
    rw [e379]
    refine at' (ce' := 15) (sl' := 165) (pc' := 310) (L' := #[.val (.int i0), .val (.int i1), .val (.int i2), .val (.int i3), .val (.int i4), .val (.ref bs), .val (.int nn), .val (.int f0), .val (.int st), .val (.ref b), .val (.int ll), .val .null, .val .null, .unset]) (S' := [(.int (0 : Int32))]) rfl rfl rfl rfl rfl ?_
    refine ifT (pc' := 321) at_310 (rfl : (0 : Int32) = (0 : Int32)) (by decide) rfl ?_
    refine ldcText (i := 124) (n := 28) (cs := ([99, 111, 109, 98, 115, 117, 109] : List Int32)) (pc' := 323) at_321 rfl (by decide +kernel) (by decide) rfl ⟨by decide +kernel, by decide +kernel⟩ (by decide) (by decide) (by decide +kernel) (by decide) (by decide) (by decide) rfl fun hn2 tan2 TEn2 Stn2 TNn2 => ?_
    refine at' (ce' := 17) (sl' := 197) (pc' := 323) (L' := #[.val (.int i0), .val (.int i1), .val (.int i2), .val (.int i3), .val (.int i4), .val (.ref bs), .val (.int nn), .val (.int f0), .val (.int st), .val (.ref b), .val (.int ll), .val .null, .val .null, .unset]) (S' := [(.ref tan2)]) rfl rfl rfl rfl rfl ?_
    refine aload (pc' := 325) at_323 rfl rfl rfl ?_
    refine call (i := 110) (i2 := 5) (Wd := 0) (pc' := 328) (kVirt (i := 122) (i2 := 107) (i3 := 109) (i4 := 108) (C := "java/lang/String") (a := tan2) (argsL := [.null]) (S' := []) (Wd := 0) at_325 rfl rfl rfl rfl (Stn2.exa) (by decide) rfl pd_5 rfl rfl (Nat.le_of_ble_eq_true rfl)) (rm_eqN l Z a0 hw hEL n0 tan2 _) rfl rfl (by simp) (by decide) (by decide) (by decide) (by decide) rfl fun v_ h380 P381 sz382 => ?_
    obtain ⟨rfl, e383⟩ := P381
    rw [e383]
    refine at' (ce' := 17) (sl' := 197) (pc' := 328) (L' := #[.val (.int i0), .val (.int i1), .val (.int i2), .val (.int i3), .val (.int i4), .val (.ref bs), .val (.int nn), .val (.int f0), .val (.int st), .val (.ref b), .val (.int ll), .val .null, .val .null, .unset]) (S' := [(.int (0 : Int32))]) rfl rfl rfl rfl rfl ?_
    refine ifT (pc' := 339) at_328 (rfl : (0 : Int32) = (0 : Int32)) (by decide) rfl ?_
    refine ldcText (i := 125) (n := 28) (cs := ([99, 111, 109, 98, 109, 110, 122] : List Int32)) (pc' := 341) at_339 rfl (by decide +kernel) (by decide) rfl ⟨by decide +kernel, by decide +kernel⟩ (by decide) (by decide) (by decide +kernel) (by decide) (by decide) (by decide) rfl fun hn3 tan3 TEn3 Stn3 TNn3 => ?_
    refine at' (ce' := 19) (sl' := 229) (pc' := 341) (L' := #[.val (.int i0), .val (.int i1), .val (.int i2), .val (.int i3), .val (.int i4), .val (.ref bs), .val (.int nn), .val (.int f0), .val (.int st), .val (.ref b), .val (.int ll), .val .null, .val .null, .unset]) (S' := [(.ref tan3)]) rfl rfl rfl rfl rfl ?_
    refine aload (pc' := 343) at_341 rfl rfl rfl ?_
    refine call (i := 110) (i2 := 5) (Wd := 0) (pc' := 346) (kVirt (i := 122) (i2 := 107) (i3 := 109) (i4 := 108) (C := "java/lang/String") (a := tan3) (argsL := [.null]) (S' := []) (Wd := 0) at_343 rfl rfl rfl rfl (Stn3.exa) (by decide) rfl pd_5 rfl rfl (Nat.le_of_ble_eq_true rfl)) (rm_eqN l Z a0 hw hEL n0 tan3 _) rfl rfl (by simp) (by decide) (by decide) (by decide) (by decide) rfl fun v_ h384 P385 sz386 => ?_
    obtain ⟨rfl, e387⟩ := P385
    rw [e387]
    refine at' (ce' := 19) (sl' := 229) (pc' := 346) (L' := #[.val (.int i0), .val (.int i1), .val (.int i2), .val (.int i3), .val (.int i4), .val (.ref bs), .val (.int nn), .val (.int f0), .val (.int st), .val (.ref b), .val (.int ll), .val .null, .val .null, .unset]) (S' := [(.int (0 : Int32))]) rfl rfl rfl rfl rfl ?_
    refine ifT (pc' := 357) at_346 (rfl : (0 : Int32) = (0 : Int32)) (by decide) rfl ?_
    refine aconst_null (pc' := 358) at_357 rfl ?_
    refine astore (pc' := 360) (L' := #[.val (.int i0), .val (.int i1), .val (.int i2), .val (.int i3), .val (.int i4), .val (.ref bs), .val (.int nn), .val (.int f0), .val (.int st), .val (.ref b), .val (.int ll), .val .null, .val .null, .val .null]) at_358 rfl rfl rfl ?_
    refine aload (pc' := 362) at_360 rfl rfl rfl ?_
    refine aload (pc' := 364) at_362 rfl rfl rfl ?_
    refine acmp (pc' := 367) (v := .null) (w := .null) true at_364 rfl rfl (decide_eq_true rfl) (by decide) rfl ?_
    refine iconst (pc' := 368) (v := (1 : Int32)) at_367 rfl rfl ?_
    refine goto (pc' := 372) at_368 (by decide) rfl ?_
    exact retI at_372 rfl (Or.inr (Or.inl rfl)) rfl (by decide) (by decide) rfl
  have JR : ∀ (hh : Heap) (bs b : Addr) (nn f0 st ll : Int32) (s : Addr) (cs : List Int32), Str Z hh s cs → Wq l false Z consts_1 a0 n0 x code maxLocals ret room_1 h (fun v h' => v = some (.int 1)) [] hh 9 100 269 #[.val (.int i0), .val (.int i1), .val (.int i2), .val (.int i3), .val (.int i4), .val (.ref bs), .val (.int nn), .val (.int f0), .val (.int st), .val (.ref b), .val (.int ll), .unset, .unset, .unset] [(.ref s)] := by
    intro hh bs b nn f0 st ll s cs Ss
    by_cases g0 : cs = ([114, 111, 117, 110, 100, 114, 111, 98, 105, 110] : List Int32)
    · skip
      refine astore (pc' := 271) (L' := #[.val (.int i0), .val (.int i1), .val (.int i2), .val (.int i3), .val (.int i4), .val (.ref bs), .val (.int nn), .val (.int f0), .val (.int st), .val (.ref b), .val (.int ll), .val (.ref s), .unset, .unset]) at_269 rfl rfl rfl ?_
      refine aload (pc' := 273) at_271 rfl rfl rfl ?_
      refine call (i := 79) (i2 := 78) (Wd := 0) (pc' := 276) (kStatic (i := 76) (i2 := 77) (i3 := 78) (i4 := 79) (argsL := [(.ref s)]) (S' := []) (Wd := 0) at_273 rfl rfl rfl rfl (by decide) rfl pd_9 rfl rfl (Nat.le_of_ble_eq_true rfl)) (rm_named0 l Z a0 hw hEL n0 va kv c0 c1 c2 c3 m0 m1 m2 m3 oe s cs _ Ss hE hO hB g0) rfl rfl (by simp) (by decide) (by decide) (by decide) (by decide) rfl fun v_ h388 P389 sz390 => ?_
      obtain ⟨a, rfl, Xa, Ea, Fa⟩ := P389
      replace Ss := Ss.ext Xa
      refine at' (ce' := 11) (sl' := 105) (pc' := 276) (L' := #[.val (.int i0), .val (.int i1), .val (.int i2), .val (.int i3), .val (.int i4), .val (.ref bs), .val (.int nn), .val (.int f0), .val (.int st), .val (.ref b), .val (.int ll), .val (.ref s), .unset, .unset]) (S' := [(.ref a)]) rfl rfl rfl rfl rfl ?_
      refine aconst_null (pc' := 277) at_276 rfl ?_
      refine call (i := 119) (i2 := 82) (Wd := 0) (pc' := 280) (kVirt (i := 115) (i2 := 116) (i3 := 118) (i4 := 117) (C := "java/util/Optional") (a := a) (argsL := [.null]) (S' := []) (Wd := 0) at_277 rfl rfl rfl rfl Ea (by decide) rfl pd_1 rfl rfl (Nat.le_of_ble_eq_true rfl)) (rm_orR l Z a0 hw hEL n0 a c0 _ Fa) rfl rfl (by simp) (by decide) (by decide) (by decide) (by decide) rfl fun v_ h391 P392 sz393 => ?_
      obtain ⟨rfl, e394⟩ := P392
      rw [e394]
      refine at' (ce' := 11) (sl' := 105) (pc' := 280) (L' := #[.val (.int i0), .val (.int i1), .val (.int i2), .val (.int i3), .val (.int i4), .val (.ref bs), .val (.int nn), .val (.int f0), .val (.int st), .val (.ref b), .val (.int ll), .val (.ref s), .unset, .unset]) (S' := [(.ref c0)]) rfl rfl rfl rfl rfl ?_
      refine old fun O _ => ?_
      refine checkcast (i := 140) (pc' := 283) at_280 rfl (Ins.self (hE.2.2.2.1.2.1.ext O.2)) rfl ?_
      refine astore (pc' := 285) (L' := #[.val (.int i0), .val (.int i1), .val (.int i2), .val (.int i3), .val (.int i4), .val (.ref bs), .val (.int nn), .val (.int f0), .val (.int st), .val (.ref b), .val (.int ll), .val (.ref s), .val (.ref c0), .unset]) at_283 rfl rfl rfl ?_
      refine ldcText (i := 4) (n := 40) (cs := ([114, 111, 117, 110, 100, 114, 111, 98, 105, 110] : List Int32)) (pc' := 287) at_285 rfl (by decide +kernel) (by decide) rfl ⟨by decide +kernel, by decide +kernel⟩ (by decide) (by decide) (by decide +kernel) (by decide) (by decide) (by decide) rfl fun hq0 taq0 TEq0 Stq0 TNq0 => ?_
      replace Ss := Ss.ext TEq0
      refine at' (ce' := 13) (sl' := 149) (pc' := 287) (L' := #[.val (.int i0), .val (.int i1), .val (.int i2), .val (.int i3), .val (.int i4), .val (.ref bs), .val (.int nn), .val (.int f0), .val (.int st), .val (.ref b), .val (.int ll), .val (.ref s), .val (.ref c0), .unset]) (S' := [(.ref taq0)]) rfl rfl rfl rfl rfl ?_
      refine aload (pc' := 289) at_287 rfl rfl rfl ?_
      refine strEq (i := 6) (Wd := 0) (pc' := 292) hB (by decide +kernel) rfl (kVirt (i := 122) (i2 := 107) (i3 := 109) (i4 := 108) (C := "java/lang/String") (a := taq0) (argsL := [(.ref s)]) (S' := []) (Wd := 0) at_289 rfl rfl rfl rfl Stq0.exa (by decide) rfl pd_5 rfl rfl (Nat.le_of_ble_eq_true rfl)) Stq0 Ss (by decide) (by decide) (by decide) (by decide) rfl fun b0 q0 => ?_
      obtain rfl : b0 = 1 := by rcases q0 with ⟨r, q⟩ | ⟨r, q⟩ <;> rw [g0] at q <;> first | exact r | exact absurd q (by decide) | exact absurd rfl q
      refine ifF (pc' := 295) at_292 (by decide : ¬ ((1 : Int32) = (0 : Int32))) rfl ?_
      refine old fun O395 _ => ?_
      refine getstatic (i := 143) (v := (.ref c0)) (pc' := 298) at_295 rfl (hE.2.2.2.1.1.ext O395.2) rfl ?_
      refine astore (pc' := 300) (L' := #[.val (.int i0), .val (.int i1), .val (.int i2), .val (.int i3), .val (.int i4), .val (.ref bs), .val (.int nn), .val (.int f0), .val (.int st), .val (.ref b), .val (.int ll), .val (.ref s), .val (.ref c0), .val (.ref c0)]) at_298 rfl rfl rfl ?_
      refine goto (pc' := 360) at_300 (by decide) rfl ?_
      refine aload (pc' := 362) at_360 rfl rfl rfl ?_
      refine aload (pc' := 364) at_362 rfl rfl rfl ?_
      refine acmp (pc' := 367) (v := (.ref c0)) (w := (.ref c0)) true at_364 rfl rfl (decide_eq_true rfl) (by decide) rfl ?_
      refine iconst (pc' := 368) (v := (1 : Int32)) at_367 rfl rfl ?_
      refine goto (pc' := 372) at_368 (by decide) rfl ?_
      exact retI at_372 rfl (Or.inr (Or.inl rfl)) rfl (by decide) (by decide) rfl
    · skip
      by_cases g1 : cs = ([114, 115, 118] : List Int32)
      · skip
        refine astore (pc' := 271) (L' := #[.val (.int i0), .val (.int i1), .val (.int i2), .val (.int i3), .val (.int i4), .val (.ref bs), .val (.int nn), .val (.int f0), .val (.int st), .val (.ref b), .val (.int ll), .val (.ref s), .unset, .unset]) at_269 rfl rfl rfl ?_
        refine aload (pc' := 273) at_271 rfl rfl rfl ?_
        refine call (i := 79) (i2 := 78) (Wd := 0) (pc' := 276) (kStatic (i := 76) (i2 := 77) (i3 := 78) (i4 := 79) (argsL := [(.ref s)]) (S' := []) (Wd := 0) at_273 rfl rfl rfl rfl (by decide) rfl pd_9 rfl rfl (Nat.le_of_ble_eq_true rfl)) (rm_named1 l Z a0 hw hEL n0 va kv c0 c1 c2 c3 m0 m1 m2 m3 oe s cs _ Ss hE hO hB g1) rfl rfl (by simp) (by decide) (by decide) (by decide) (by decide) rfl fun v_ h396 P397 sz398 => ?_
        obtain ⟨a, rfl, Xa, Ea, Fa⟩ := P397
        replace Ss := Ss.ext Xa
        refine at' (ce' := 11) (sl' := 105) (pc' := 276) (L' := #[.val (.int i0), .val (.int i1), .val (.int i2), .val (.int i3), .val (.int i4), .val (.ref bs), .val (.int nn), .val (.int f0), .val (.int st), .val (.ref b), .val (.int ll), .val (.ref s), .unset, .unset]) (S' := [(.ref a)]) rfl rfl rfl rfl rfl ?_
        refine aconst_null (pc' := 277) at_276 rfl ?_
        refine call (i := 119) (i2 := 82) (Wd := 0) (pc' := 280) (kVirt (i := 115) (i2 := 116) (i3 := 118) (i4 := 117) (C := "java/util/Optional") (a := a) (argsL := [.null]) (S' := []) (Wd := 0) at_277 rfl rfl rfl rfl Ea (by decide) rfl pd_1 rfl rfl (Nat.le_of_ble_eq_true rfl)) (rm_orR l Z a0 hw hEL n0 a c1 _ Fa) rfl rfl (by simp) (by decide) (by decide) (by decide) (by decide) rfl fun v_ h399 P400 sz401 => ?_
        obtain ⟨rfl, e402⟩ := P400
        rw [e402]
        refine at' (ce' := 11) (sl' := 105) (pc' := 280) (L' := #[.val (.int i0), .val (.int i1), .val (.int i2), .val (.int i3), .val (.int i4), .val (.ref bs), .val (.int nn), .val (.int f0), .val (.int st), .val (.ref b), .val (.int ll), .val (.ref s), .unset, .unset]) (S' := [(.ref c1)]) rfl rfl rfl rfl rfl ?_
        refine old fun O _ => ?_
        refine checkcast (i := 140) (pc' := 283) at_280 rfl (Ins.self (hE.2.2.2.2.1.2.1.ext O.2)) rfl ?_
        refine astore (pc' := 285) (L' := #[.val (.int i0), .val (.int i1), .val (.int i2), .val (.int i3), .val (.int i4), .val (.ref bs), .val (.int nn), .val (.int f0), .val (.int st), .val (.ref b), .val (.int ll), .val (.ref s), .val (.ref c1), .unset]) at_283 rfl rfl rfl ?_
        refine ldcText (i := 4) (n := 40) (cs := ([114, 111, 117, 110, 100, 114, 111, 98, 105, 110] : List Int32)) (pc' := 287) at_285 rfl (by decide +kernel) (by decide) rfl ⟨by decide +kernel, by decide +kernel⟩ (by decide) (by decide) (by decide +kernel) (by decide) (by decide) (by decide) rfl fun hq0 taq0 TEq0 Stq0 TNq0 => ?_
        replace Ss := Ss.ext TEq0
        refine at' (ce' := 13) (sl' := 149) (pc' := 287) (L' := #[.val (.int i0), .val (.int i1), .val (.int i2), .val (.int i3), .val (.int i4), .val (.ref bs), .val (.int nn), .val (.int f0), .val (.int st), .val (.ref b), .val (.int ll), .val (.ref s), .val (.ref c1), .unset]) (S' := [(.ref taq0)]) rfl rfl rfl rfl rfl ?_
        refine aload (pc' := 289) at_287 rfl rfl rfl ?_
        refine strEq (i := 6) (Wd := 0) (pc' := 292) hB (by decide +kernel) rfl (kVirt (i := 122) (i2 := 107) (i3 := 109) (i4 := 108) (C := "java/lang/String") (a := taq0) (argsL := [(.ref s)]) (S' := []) (Wd := 0) at_289 rfl rfl rfl rfl Stq0.exa (by decide) rfl pd_5 rfl rfl (Nat.le_of_ble_eq_true rfl)) Stq0 Ss (by decide) (by decide) (by decide) (by decide) rfl fun b0 q0 => ?_
        obtain rfl : b0 = 0 := by rcases q0 with ⟨r, q⟩ | ⟨r, q⟩ <;> rw [g1] at q <;> first | exact r | exact absurd q (by decide) | exact absurd rfl q
        refine ifT (pc' := 303) at_292 (by decide : (0 : Int32) = (0 : Int32)) (by decide) rfl ?_
        refine ldcText (i := 123) (n := 12) (cs := ([114, 115, 118] : List Int32)) (pc' := 305) at_303 rfl (by decide +kernel) (by decide) rfl ⟨by decide +kernel, by decide +kernel⟩ (by decide) (by decide) (by decide +kernel) (by decide) (by decide) (by decide) rfl fun hq1 taq1 TEq1 Stq1 TNq1 => ?_
        replace Ss := Ss.ext TEq1
        replace Stq0 := Stq0.ext TEq1
        refine at' (ce' := 15) (sl' := 165) (pc' := 305) (L' := #[.val (.int i0), .val (.int i1), .val (.int i2), .val (.int i3), .val (.int i4), .val (.ref bs), .val (.int nn), .val (.int f0), .val (.int st), .val (.ref b), .val (.int ll), .val (.ref s), .val (.ref c1), .unset]) (S' := [(.ref taq1)]) rfl rfl rfl rfl rfl ?_
        refine aload (pc' := 307) at_305 rfl rfl rfl ?_
        refine strEq (i := 6) (Wd := 0) (pc' := 310) hB (by decide +kernel) rfl (kVirt (i := 122) (i2 := 107) (i3 := 109) (i4 := 108) (C := "java/lang/String") (a := taq1) (argsL := [(.ref s)]) (S' := []) (Wd := 0) at_307 rfl rfl rfl rfl Stq1.exa (by decide) rfl pd_5 rfl rfl (Nat.le_of_ble_eq_true rfl)) Stq1 Ss (by decide) (by decide) (by decide) (by decide) rfl fun b1 q1 => ?_
        obtain rfl : b1 = 1 := by rcases q1 with ⟨r, q⟩ | ⟨r, q⟩ <;> rw [g1] at q <;> first | exact r | exact absurd q (by decide) | exact absurd rfl q
        refine ifF (pc' := 313) at_310 (by decide : ¬ ((1 : Int32) = (0 : Int32))) rfl ?_
        refine old fun O403 _ => ?_
        refine getstatic (i := 147) (v := (.ref c1)) (pc' := 316) at_313 rfl (hE.2.2.2.2.1.1.ext O403.2) rfl ?_
        refine astore (pc' := 318) (L' := #[.val (.int i0), .val (.int i1), .val (.int i2), .val (.int i3), .val (.int i4), .val (.ref bs), .val (.int nn), .val (.int f0), .val (.int st), .val (.ref b), .val (.int ll), .val (.ref s), .val (.ref c1), .val (.ref c1)]) at_316 rfl rfl rfl ?_
        refine goto (pc' := 360) at_318 (by decide) rfl ?_
        refine aload (pc' := 362) at_360 rfl rfl rfl ?_
        refine aload (pc' := 364) at_362 rfl rfl rfl ?_
        refine acmp (pc' := 367) (v := (.ref c1)) (w := (.ref c1)) true at_364 rfl rfl (decide_eq_true rfl) (by decide) rfl ?_
        refine iconst (pc' := 368) (v := (1 : Int32)) at_367 rfl rfl ?_
        refine goto (pc' := 372) at_368 (by decide) rfl ?_
        exact retI at_372 rfl (Or.inr (Or.inl rfl)) rfl (by decide) (by decide) rfl
      · skip
        by_cases g2 : cs = ([99, 111, 109, 98, 115, 117, 109] : List Int32)
        · skip
          refine astore (pc' := 271) (L' := #[.val (.int i0), .val (.int i1), .val (.int i2), .val (.int i3), .val (.int i4), .val (.ref bs), .val (.int nn), .val (.int f0), .val (.int st), .val (.ref b), .val (.int ll), .val (.ref s), .unset, .unset]) at_269 rfl rfl rfl ?_
          refine aload (pc' := 273) at_271 rfl rfl rfl ?_
          refine call (i := 79) (i2 := 78) (Wd := 0) (pc' := 276) (kStatic (i := 76) (i2 := 77) (i3 := 78) (i4 := 79) (argsL := [(.ref s)]) (S' := []) (Wd := 0) at_273 rfl rfl rfl rfl (by decide) rfl pd_9 rfl rfl (Nat.le_of_ble_eq_true rfl)) (rm_named2 l Z a0 hw hEL n0 va kv c0 c1 c2 c3 m0 m1 m2 m3 oe s cs _ Ss hE hO hB g2) rfl rfl (by simp) (by decide) (by decide) (by decide) (by decide) rfl fun v_ h404 P405 sz406 => ?_
          obtain ⟨a, rfl, Xa, Ea, Fa⟩ := P405
          replace Ss := Ss.ext Xa
          refine at' (ce' := 11) (sl' := 105) (pc' := 276) (L' := #[.val (.int i0), .val (.int i1), .val (.int i2), .val (.int i3), .val (.int i4), .val (.ref bs), .val (.int nn), .val (.int f0), .val (.int st), .val (.ref b), .val (.int ll), .val (.ref s), .unset, .unset]) (S' := [(.ref a)]) rfl rfl rfl rfl rfl ?_
          refine aconst_null (pc' := 277) at_276 rfl ?_
          refine call (i := 119) (i2 := 82) (Wd := 0) (pc' := 280) (kVirt (i := 115) (i2 := 116) (i3 := 118) (i4 := 117) (C := "java/util/Optional") (a := a) (argsL := [.null]) (S' := []) (Wd := 0) at_277 rfl rfl rfl rfl Ea (by decide) rfl pd_1 rfl rfl (Nat.le_of_ble_eq_true rfl)) (rm_orR l Z a0 hw hEL n0 a c2 _ Fa) rfl rfl (by simp) (by decide) (by decide) (by decide) (by decide) rfl fun v_ h407 P408 sz409 => ?_
          obtain ⟨rfl, e410⟩ := P408
          rw [e410]
          refine at' (ce' := 11) (sl' := 105) (pc' := 280) (L' := #[.val (.int i0), .val (.int i1), .val (.int i2), .val (.int i3), .val (.int i4), .val (.ref bs), .val (.int nn), .val (.int f0), .val (.int st), .val (.ref b), .val (.int ll), .val (.ref s), .unset, .unset]) (S' := [(.ref c2)]) rfl rfl rfl rfl rfl ?_
          refine old fun O _ => ?_
          refine checkcast (i := 140) (pc' := 283) at_280 rfl (Ins.self (hE.2.2.2.2.2.1.2.1.ext O.2)) rfl ?_
          refine astore (pc' := 285) (L' := #[.val (.int i0), .val (.int i1), .val (.int i2), .val (.int i3), .val (.int i4), .val (.ref bs), .val (.int nn), .val (.int f0), .val (.int st), .val (.ref b), .val (.int ll), .val (.ref s), .val (.ref c2), .unset]) at_283 rfl rfl rfl ?_
          refine ldcText (i := 4) (n := 40) (cs := ([114, 111, 117, 110, 100, 114, 111, 98, 105, 110] : List Int32)) (pc' := 287) at_285 rfl (by decide +kernel) (by decide) rfl ⟨by decide +kernel, by decide +kernel⟩ (by decide) (by decide) (by decide +kernel) (by decide) (by decide) (by decide) rfl fun hq0 taq0 TEq0 Stq0 TNq0 => ?_
          replace Ss := Ss.ext TEq0
          refine at' (ce' := 13) (sl' := 149) (pc' := 287) (L' := #[.val (.int i0), .val (.int i1), .val (.int i2), .val (.int i3), .val (.int i4), .val (.ref bs), .val (.int nn), .val (.int f0), .val (.int st), .val (.ref b), .val (.int ll), .val (.ref s), .val (.ref c2), .unset]) (S' := [(.ref taq0)]) rfl rfl rfl rfl rfl ?_
          refine aload (pc' := 289) at_287 rfl rfl rfl ?_
          refine strEq (i := 6) (Wd := 0) (pc' := 292) hB (by decide +kernel) rfl (kVirt (i := 122) (i2 := 107) (i3 := 109) (i4 := 108) (C := "java/lang/String") (a := taq0) (argsL := [(.ref s)]) (S' := []) (Wd := 0) at_289 rfl rfl rfl rfl Stq0.exa (by decide) rfl pd_5 rfl rfl (Nat.le_of_ble_eq_true rfl)) Stq0 Ss (by decide) (by decide) (by decide) (by decide) rfl fun b0 q0 => ?_
          obtain rfl : b0 = 0 := by rcases q0 with ⟨r, q⟩ | ⟨r, q⟩ <;> rw [g2] at q <;> first | exact r | exact absurd q (by decide) | exact absurd rfl q
          refine ifT (pc' := 303) at_292 (by decide : (0 : Int32) = (0 : Int32)) (by decide) rfl ?_
          refine ldcText (i := 123) (n := 12) (cs := ([114, 115, 118] : List Int32)) (pc' := 305) at_303 rfl (by decide +kernel) (by decide) rfl ⟨by decide +kernel, by decide +kernel⟩ (by decide) (by decide) (by decide +kernel) (by decide) (by decide) (by decide) rfl fun hq1 taq1 TEq1 Stq1 TNq1 => ?_
          replace Ss := Ss.ext TEq1
          replace Stq0 := Stq0.ext TEq1
          refine at' (ce' := 15) (sl' := 165) (pc' := 305) (L' := #[.val (.int i0), .val (.int i1), .val (.int i2), .val (.int i3), .val (.int i4), .val (.ref bs), .val (.int nn), .val (.int f0), .val (.int st), .val (.ref b), .val (.int ll), .val (.ref s), .val (.ref c2), .unset]) (S' := [(.ref taq1)]) rfl rfl rfl rfl rfl ?_
          refine aload (pc' := 307) at_305 rfl rfl rfl ?_
          refine strEq (i := 6) (Wd := 0) (pc' := 310) hB (by decide +kernel) rfl (kVirt (i := 122) (i2 := 107) (i3 := 109) (i4 := 108) (C := "java/lang/String") (a := taq1) (argsL := [(.ref s)]) (S' := []) (Wd := 0) at_307 rfl rfl rfl rfl Stq1.exa (by decide) rfl pd_5 rfl rfl (Nat.le_of_ble_eq_true rfl)) Stq1 Ss (by decide) (by decide) (by decide) (by decide) rfl fun b1 q1 => ?_
          obtain rfl : b1 = 0 := by rcases q1 with ⟨r, q⟩ | ⟨r, q⟩ <;> rw [g2] at q <;> first | exact r | exact absurd q (by decide) | exact absurd rfl q
          refine ifT (pc' := 321) at_310 (by decide : (0 : Int32) = (0 : Int32)) (by decide) rfl ?_
          refine ldcText (i := 124) (n := 28) (cs := ([99, 111, 109, 98, 115, 117, 109] : List Int32)) (pc' := 323) at_321 rfl (by decide +kernel) (by decide) rfl ⟨by decide +kernel, by decide +kernel⟩ (by decide) (by decide) (by decide +kernel) (by decide) (by decide) (by decide) rfl fun hq2 taq2 TEq2 Stq2 TNq2 => ?_
          replace Ss := Ss.ext TEq2
          replace Stq0 := Stq0.ext TEq2
          replace Stq1 := Stq1.ext TEq2
          refine at' (ce' := 17) (sl' := 197) (pc' := 323) (L' := #[.val (.int i0), .val (.int i1), .val (.int i2), .val (.int i3), .val (.int i4), .val (.ref bs), .val (.int nn), .val (.int f0), .val (.int st), .val (.ref b), .val (.int ll), .val (.ref s), .val (.ref c2), .unset]) (S' := [(.ref taq2)]) rfl rfl rfl rfl rfl ?_
          refine aload (pc' := 325) at_323 rfl rfl rfl ?_
          refine strEq (i := 6) (Wd := 0) (pc' := 328) hB (by decide +kernel) rfl (kVirt (i := 122) (i2 := 107) (i3 := 109) (i4 := 108) (C := "java/lang/String") (a := taq2) (argsL := [(.ref s)]) (S' := []) (Wd := 0) at_325 rfl rfl rfl rfl Stq2.exa (by decide) rfl pd_5 rfl rfl (Nat.le_of_ble_eq_true rfl)) Stq2 Ss (by decide) (by decide) (by decide) (by decide) rfl fun b2 q2 => ?_
          obtain rfl : b2 = 1 := by rcases q2 with ⟨r, q⟩ | ⟨r, q⟩ <;> rw [g2] at q <;> first | exact r | exact absurd q (by decide) | exact absurd rfl q
          refine ifF (pc' := 331) at_328 (by decide : ¬ ((1 : Int32) = (0 : Int32))) rfl ?_
          refine old fun O411 _ => ?_
          refine getstatic (i := 145) (v := (.ref c2)) (pc' := 334) at_331 rfl (hE.2.2.2.2.2.1.1.ext O411.2) rfl ?_
          refine astore (pc' := 336) (L' := #[.val (.int i0), .val (.int i1), .val (.int i2), .val (.int i3), .val (.int i4), .val (.ref bs), .val (.int nn), .val (.int f0), .val (.int st), .val (.ref b), .val (.int ll), .val (.ref s), .val (.ref c2), .val (.ref c2)]) at_334 rfl rfl rfl ?_
          refine goto (pc' := 360) at_336 (by decide) rfl ?_
          refine aload (pc' := 362) at_360 rfl rfl rfl ?_
          refine aload (pc' := 364) at_362 rfl rfl rfl ?_
          refine acmp (pc' := 367) (v := (.ref c2)) (w := (.ref c2)) true at_364 rfl rfl (decide_eq_true rfl) (by decide) rfl ?_
          refine iconst (pc' := 368) (v := (1 : Int32)) at_367 rfl rfl ?_
          refine goto (pc' := 372) at_368 (by decide) rfl ?_
          exact retI at_372 rfl (Or.inr (Or.inl rfl)) rfl (by decide) (by decide) rfl
        · skip
          by_cases g3 : cs = ([99, 111, 109, 98, 109, 110, 122] : List Int32)
          · skip
            refine astore (pc' := 271) (L' := #[.val (.int i0), .val (.int i1), .val (.int i2), .val (.int i3), .val (.int i4), .val (.ref bs), .val (.int nn), .val (.int f0), .val (.int st), .val (.ref b), .val (.int ll), .val (.ref s), .unset, .unset]) at_269 rfl rfl rfl ?_
            refine aload (pc' := 273) at_271 rfl rfl rfl ?_
            refine call (i := 79) (i2 := 78) (Wd := 0) (pc' := 276) (kStatic (i := 76) (i2 := 77) (i3 := 78) (i4 := 79) (argsL := [(.ref s)]) (S' := []) (Wd := 0) at_273 rfl rfl rfl rfl (by decide) rfl pd_9 rfl rfl (Nat.le_of_ble_eq_true rfl)) (rm_named3 l Z a0 hw hEL n0 va kv c0 c1 c2 c3 m0 m1 m2 m3 oe s cs _ Ss hE hO hB g3) rfl rfl (by simp) (by decide) (by decide) (by decide) (by decide) rfl fun v_ h412 P413 sz414 => ?_
            obtain ⟨a, rfl, Xa, Ea, Fa⟩ := P413
            replace Ss := Ss.ext Xa
            refine at' (ce' := 11) (sl' := 105) (pc' := 276) (L' := #[.val (.int i0), .val (.int i1), .val (.int i2), .val (.int i3), .val (.int i4), .val (.ref bs), .val (.int nn), .val (.int f0), .val (.int st), .val (.ref b), .val (.int ll), .val (.ref s), .unset, .unset]) (S' := [(.ref a)]) rfl rfl rfl rfl rfl ?_
            refine aconst_null (pc' := 277) at_276 rfl ?_
            refine call (i := 119) (i2 := 82) (Wd := 0) (pc' := 280) (kVirt (i := 115) (i2 := 116) (i3 := 118) (i4 := 117) (C := "java/util/Optional") (a := a) (argsL := [.null]) (S' := []) (Wd := 0) at_277 rfl rfl rfl rfl Ea (by decide) rfl pd_1 rfl rfl (Nat.le_of_ble_eq_true rfl)) (rm_orR l Z a0 hw hEL n0 a c3 _ Fa) rfl rfl (by simp) (by decide) (by decide) (by decide) (by decide) rfl fun v_ h415 P416 sz417 => ?_
            obtain ⟨rfl, e418⟩ := P416
            rw [e418]
            refine at' (ce' := 11) (sl' := 105) (pc' := 280) (L' := #[.val (.int i0), .val (.int i1), .val (.int i2), .val (.int i3), .val (.int i4), .val (.ref bs), .val (.int nn), .val (.int f0), .val (.int st), .val (.ref b), .val (.int ll), .val (.ref s), .unset, .unset]) (S' := [(.ref c3)]) rfl rfl rfl rfl rfl ?_
            refine old fun O _ => ?_
            refine checkcast (i := 140) (pc' := 283) at_280 rfl (Ins.self (hE.2.2.2.2.2.2.2.1.ext O.2)) rfl ?_
            refine astore (pc' := 285) (L' := #[.val (.int i0), .val (.int i1), .val (.int i2), .val (.int i3), .val (.int i4), .val (.ref bs), .val (.int nn), .val (.int f0), .val (.int st), .val (.ref b), .val (.int ll), .val (.ref s), .val (.ref c3), .unset]) at_283 rfl rfl rfl ?_
            refine ldcText (i := 4) (n := 40) (cs := ([114, 111, 117, 110, 100, 114, 111, 98, 105, 110] : List Int32)) (pc' := 287) at_285 rfl (by decide +kernel) (by decide) rfl ⟨by decide +kernel, by decide +kernel⟩ (by decide) (by decide) (by decide +kernel) (by decide) (by decide) (by decide) rfl fun hq0 taq0 TEq0 Stq0 TNq0 => ?_
            replace Ss := Ss.ext TEq0
            refine at' (ce' := 13) (sl' := 149) (pc' := 287) (L' := #[.val (.int i0), .val (.int i1), .val (.int i2), .val (.int i3), .val (.int i4), .val (.ref bs), .val (.int nn), .val (.int f0), .val (.int st), .val (.ref b), .val (.int ll), .val (.ref s), .val (.ref c3), .unset]) (S' := [(.ref taq0)]) rfl rfl rfl rfl rfl ?_
            refine aload (pc' := 289) at_287 rfl rfl rfl ?_
            refine strEq (i := 6) (Wd := 0) (pc' := 292) hB (by decide +kernel) rfl (kVirt (i := 122) (i2 := 107) (i3 := 109) (i4 := 108) (C := "java/lang/String") (a := taq0) (argsL := [(.ref s)]) (S' := []) (Wd := 0) at_289 rfl rfl rfl rfl Stq0.exa (by decide) rfl pd_5 rfl rfl (Nat.le_of_ble_eq_true rfl)) Stq0 Ss (by decide) (by decide) (by decide) (by decide) rfl fun b0 q0 => ?_
            obtain rfl : b0 = 0 := by rcases q0 with ⟨r, q⟩ | ⟨r, q⟩ <;> rw [g3] at q <;> first | exact r | exact absurd q (by decide) | exact absurd rfl q
            refine ifT (pc' := 303) at_292 (by decide : (0 : Int32) = (0 : Int32)) (by decide) rfl ?_
            refine ldcText (i := 123) (n := 12) (cs := ([114, 115, 118] : List Int32)) (pc' := 305) at_303 rfl (by decide +kernel) (by decide) rfl ⟨by decide +kernel, by decide +kernel⟩ (by decide) (by decide) (by decide +kernel) (by decide) (by decide) (by decide) rfl fun hq1 taq1 TEq1 Stq1 TNq1 => ?_
            replace Ss := Ss.ext TEq1
            replace Stq0 := Stq0.ext TEq1
            refine at' (ce' := 15) (sl' := 165) (pc' := 305) (L' := #[.val (.int i0), .val (.int i1), .val (.int i2), .val (.int i3), .val (.int i4), .val (.ref bs), .val (.int nn), .val (.int f0), .val (.int st), .val (.ref b), .val (.int ll), .val (.ref s), .val (.ref c3), .unset]) (S' := [(.ref taq1)]) rfl rfl rfl rfl rfl ?_
            refine aload (pc' := 307) at_305 rfl rfl rfl ?_
            refine strEq (i := 6) (Wd := 0) (pc' := 310) hB (by decide +kernel) rfl (kVirt (i := 122) (i2 := 107) (i3 := 109) (i4 := 108) (C := "java/lang/String") (a := taq1) (argsL := [(.ref s)]) (S' := []) (Wd := 0) at_307 rfl rfl rfl rfl Stq1.exa (by decide) rfl pd_5 rfl rfl (Nat.le_of_ble_eq_true rfl)) Stq1 Ss (by decide) (by decide) (by decide) (by decide) rfl fun b1 q1 => ?_
            obtain rfl : b1 = 0 := by rcases q1 with ⟨r, q⟩ | ⟨r, q⟩ <;> rw [g3] at q <;> first | exact r | exact absurd q (by decide) | exact absurd rfl q
            refine ifT (pc' := 321) at_310 (by decide : (0 : Int32) = (0 : Int32)) (by decide) rfl ?_
            refine ldcText (i := 124) (n := 28) (cs := ([99, 111, 109, 98, 115, 117, 109] : List Int32)) (pc' := 323) at_321 rfl (by decide +kernel) (by decide) rfl ⟨by decide +kernel, by decide +kernel⟩ (by decide) (by decide) (by decide +kernel) (by decide) (by decide) (by decide) rfl fun hq2 taq2 TEq2 Stq2 TNq2 => ?_
            replace Ss := Ss.ext TEq2
            replace Stq0 := Stq0.ext TEq2
            replace Stq1 := Stq1.ext TEq2
            refine at' (ce' := 17) (sl' := 197) (pc' := 323) (L' := #[.val (.int i0), .val (.int i1), .val (.int i2), .val (.int i3), .val (.int i4), .val (.ref bs), .val (.int nn), .val (.int f0), .val (.int st), .val (.ref b), .val (.int ll), .val (.ref s), .val (.ref c3), .unset]) (S' := [(.ref taq2)]) rfl rfl rfl rfl rfl ?_
            refine aload (pc' := 325) at_323 rfl rfl rfl ?_
            refine strEq (i := 6) (Wd := 0) (pc' := 328) hB (by decide +kernel) rfl (kVirt (i := 122) (i2 := 107) (i3 := 109) (i4 := 108) (C := "java/lang/String") (a := taq2) (argsL := [(.ref s)]) (S' := []) (Wd := 0) at_325 rfl rfl rfl rfl Stq2.exa (by decide) rfl pd_5 rfl rfl (Nat.le_of_ble_eq_true rfl)) Stq2 Ss (by decide) (by decide) (by decide) (by decide) rfl fun b2 q2 => ?_
            obtain rfl : b2 = 0 := by rcases q2 with ⟨r, q⟩ | ⟨r, q⟩ <;> rw [g3] at q <;> first | exact r | exact absurd q (by decide) | exact absurd rfl q
            refine ifT (pc' := 339) at_328 (by decide : (0 : Int32) = (0 : Int32)) (by decide) rfl ?_
            refine ldcText (i := 125) (n := 28) (cs := ([99, 111, 109, 98, 109, 110, 122] : List Int32)) (pc' := 341) at_339 rfl (by decide +kernel) (by decide) rfl ⟨by decide +kernel, by decide +kernel⟩ (by decide) (by decide) (by decide +kernel) (by decide) (by decide) (by decide) rfl fun hq3 taq3 TEq3 Stq3 TNq3 => ?_
            replace Ss := Ss.ext TEq3
            replace Stq0 := Stq0.ext TEq3
            replace Stq1 := Stq1.ext TEq3
            replace Stq2 := Stq2.ext TEq3
            refine at' (ce' := 19) (sl' := 229) (pc' := 341) (L' := #[.val (.int i0), .val (.int i1), .val (.int i2), .val (.int i3), .val (.int i4), .val (.ref bs), .val (.int nn), .val (.int f0), .val (.int st), .val (.ref b), .val (.int ll), .val (.ref s), .val (.ref c3), .unset]) (S' := [(.ref taq3)]) rfl rfl rfl rfl rfl ?_
            refine aload (pc' := 343) at_341 rfl rfl rfl ?_
            refine strEq (i := 6) (Wd := 0) (pc' := 346) hB (by decide +kernel) rfl (kVirt (i := 122) (i2 := 107) (i3 := 109) (i4 := 108) (C := "java/lang/String") (a := taq3) (argsL := [(.ref s)]) (S' := []) (Wd := 0) at_343 rfl rfl rfl rfl Stq3.exa (by decide) rfl pd_5 rfl rfl (Nat.le_of_ble_eq_true rfl)) Stq3 Ss (by decide) (by decide) (by decide) (by decide) rfl fun b3 q3 => ?_
            obtain rfl : b3 = 1 := by rcases q3 with ⟨r, q⟩ | ⟨r, q⟩ <;> rw [g3] at q <;> first | exact r | exact absurd q (by decide) | exact absurd rfl q
            refine ifF (pc' := 349) at_346 (by decide : ¬ ((1 : Int32) = (0 : Int32))) rfl ?_
            refine old fun O419 _ => ?_
            refine getstatic (i := 142) (v := (.ref c3)) (pc' := 352) at_349 rfl (hE.2.2.2.2.2.2.1.ext O419.2) rfl ?_
            refine astore (pc' := 354) (L' := #[.val (.int i0), .val (.int i1), .val (.int i2), .val (.int i3), .val (.int i4), .val (.ref bs), .val (.int nn), .val (.int f0), .val (.int st), .val (.ref b), .val (.int ll), .val (.ref s), .val (.ref c3), .val (.ref c3)]) at_352 rfl rfl rfl ?_
            refine goto (pc' := 360) at_354 (by decide) rfl ?_
            refine aload (pc' := 362) at_360 rfl rfl rfl ?_
            refine aload (pc' := 364) at_362 rfl rfl rfl ?_
            refine acmp (pc' := 367) (v := (.ref c3)) (w := (.ref c3)) true at_364 rfl rfl (decide_eq_true rfl) (by decide) rfl ?_
            refine iconst (pc' := 368) (v := (1 : Int32)) at_367 rfl rfl ?_
            refine goto (pc' := 372) at_368 (by decide) rfl ?_
            exact retI at_372 rfl (Or.inr (Or.inl rfl)) rfl (by decide) (by decide) rfl
          · skip
            refine astore (pc' := 271) (L' := #[.val (.int i0), .val (.int i1), .val (.int i2), .val (.int i3), .val (.int i4), .val (.ref bs), .val (.int nn), .val (.int f0), .val (.int st), .val (.ref b), .val (.int ll), .val (.ref s), .unset, .unset]) at_269 rfl rfl rfl ?_
            refine aload (pc' := 273) at_271 rfl rfl rfl ?_
            refine call (i := 79) (i2 := 78) (Wd := 0) (pc' := 276) (kStatic (i := 76) (i2 := 77) (i3 := 78) (i4 := 79) (argsL := [(.ref s)]) (S' := []) (Wd := 0) at_273 rfl rfl rfl rfl (by decide) rfl pd_9 rfl rfl (Nat.le_of_ble_eq_true rfl)) (rm_namedX l Z a0 hw hEL n0 va kv c0 c1 c2 c3 m0 m1 m2 m3 oe s cs _ Ss hE hO hB ⟨g0, g1, g2, g3⟩) rfl rfl (by simp) (by decide) (by decide) (by decide) (by decide) rfl fun v_ h420 P421 sz422 => ?_
            obtain ⟨a, rfl, Xa, Ea, Fa⟩ := P421
            replace Ss := Ss.ext Xa
            refine at' (ce' := 11) (sl' := 105) (pc' := 276) (L' := #[.val (.int i0), .val (.int i1), .val (.int i2), .val (.int i3), .val (.int i4), .val (.ref bs), .val (.int nn), .val (.int f0), .val (.int st), .val (.ref b), .val (.int ll), .val (.ref s), .unset, .unset]) (S' := [(.ref a)]) rfl rfl rfl rfl rfl ?_
            refine aconst_null (pc' := 277) at_276 rfl ?_
            refine call (i := 119) (i2 := 82) (Wd := 0) (pc' := 280) (kVirt (i := 115) (i2 := 116) (i3 := 118) (i4 := 117) (C := "java/util/Optional") (a := a) (argsL := [.null]) (S' := []) (Wd := 0) at_277 rfl rfl rfl rfl Ea (by decide) rfl pd_1 rfl rfl (Nat.le_of_ble_eq_true rfl)) (rm_orN l Z a0 hw hEL n0 a _ Fa) rfl rfl (by simp) (by decide) (by decide) (by decide) (by decide) rfl fun v_ h423 P424 sz425 => ?_
            obtain ⟨rfl, e426⟩ := P424
            rw [e426]
            refine at' (ce' := 11) (sl' := 105) (pc' := 280) (L' := #[.val (.int i0), .val (.int i1), .val (.int i2), .val (.int i3), .val (.int i4), .val (.ref bs), .val (.int nn), .val (.int f0), .val (.int st), .val (.ref b), .val (.int ll), .val (.ref s), .unset, .unset]) (S' := [.null]) rfl rfl rfl rfl rfl ?_
            refine checkcastNull (pc' := 283) at_280 rfl ?_
            refine astore (pc' := 285) (L' := #[.val (.int i0), .val (.int i1), .val (.int i2), .val (.int i3), .val (.int i4), .val (.ref bs), .val (.int nn), .val (.int f0), .val (.int st), .val (.ref b), .val (.int ll), .val (.ref s), .val .null, .unset]) at_283 rfl rfl rfl ?_
            refine ldcText (i := 4) (n := 40) (cs := ([114, 111, 117, 110, 100, 114, 111, 98, 105, 110] : List Int32)) (pc' := 287) at_285 rfl (by decide +kernel) (by decide) rfl ⟨by decide +kernel, by decide +kernel⟩ (by decide) (by decide) (by decide +kernel) (by decide) (by decide) (by decide) rfl fun hq0 taq0 TEq0 Stq0 TNq0 => ?_
            replace Ss := Ss.ext TEq0
            refine at' (ce' := 13) (sl' := 149) (pc' := 287) (L' := #[.val (.int i0), .val (.int i1), .val (.int i2), .val (.int i3), .val (.int i4), .val (.ref bs), .val (.int nn), .val (.int f0), .val (.int st), .val (.ref b), .val (.int ll), .val (.ref s), .val .null, .unset]) (S' := [(.ref taq0)]) rfl rfl rfl rfl rfl ?_
            refine aload (pc' := 289) at_287 rfl rfl rfl ?_
            refine strEq (i := 6) (Wd := 0) (pc' := 292) hB (by decide +kernel) rfl (kVirt (i := 122) (i2 := 107) (i3 := 109) (i4 := 108) (C := "java/lang/String") (a := taq0) (argsL := [(.ref s)]) (S' := []) (Wd := 0) at_289 rfl rfl rfl rfl Stq0.exa (by decide) rfl pd_5 rfl rfl (Nat.le_of_ble_eq_true rfl)) Stq0 Ss (by decide) (by decide) (by decide) (by decide) rfl fun b0 q0 => ?_
            obtain rfl : b0 = 0 := by rcases q0 with ⟨r, q⟩ | ⟨r, q⟩ <;> first | exact r | exact absurd q.symm g0
            refine ifT (pc' := 303) at_292 (by decide : (0 : Int32) = (0 : Int32)) (by decide) rfl ?_
            refine ldcText (i := 123) (n := 12) (cs := ([114, 115, 118] : List Int32)) (pc' := 305) at_303 rfl (by decide +kernel) (by decide) rfl ⟨by decide +kernel, by decide +kernel⟩ (by decide) (by decide) (by decide +kernel) (by decide) (by decide) (by decide) rfl fun hq1 taq1 TEq1 Stq1 TNq1 => ?_
            replace Ss := Ss.ext TEq1
            replace Stq0 := Stq0.ext TEq1
            refine at' (ce' := 15) (sl' := 165) (pc' := 305) (L' := #[.val (.int i0), .val (.int i1), .val (.int i2), .val (.int i3), .val (.int i4), .val (.ref bs), .val (.int nn), .val (.int f0), .val (.int st), .val (.ref b), .val (.int ll), .val (.ref s), .val .null, .unset]) (S' := [(.ref taq1)]) rfl rfl rfl rfl rfl ?_
            refine aload (pc' := 307) at_305 rfl rfl rfl ?_
            refine strEq (i := 6) (Wd := 0) (pc' := 310) hB (by decide +kernel) rfl (kVirt (i := 122) (i2 := 107) (i3 := 109) (i4 := 108) (C := "java/lang/String") (a := taq1) (argsL := [(.ref s)]) (S' := []) (Wd := 0) at_307 rfl rfl rfl rfl Stq1.exa (by decide) rfl pd_5 rfl rfl (Nat.le_of_ble_eq_true rfl)) Stq1 Ss (by decide) (by decide) (by decide) (by decide) rfl fun b1 q1 => ?_
            obtain rfl : b1 = 0 := by rcases q1 with ⟨r, q⟩ | ⟨r, q⟩ <;> first | exact r | exact absurd q.symm g1
            refine ifT (pc' := 321) at_310 (by decide : (0 : Int32) = (0 : Int32)) (by decide) rfl ?_
            refine ldcText (i := 124) (n := 28) (cs := ([99, 111, 109, 98, 115, 117, 109] : List Int32)) (pc' := 323) at_321 rfl (by decide +kernel) (by decide) rfl ⟨by decide +kernel, by decide +kernel⟩ (by decide) (by decide) (by decide +kernel) (by decide) (by decide) (by decide) rfl fun hq2 taq2 TEq2 Stq2 TNq2 => ?_
            replace Ss := Ss.ext TEq2
            replace Stq0 := Stq0.ext TEq2
            replace Stq1 := Stq1.ext TEq2
            refine at' (ce' := 17) (sl' := 197) (pc' := 323) (L' := #[.val (.int i0), .val (.int i1), .val (.int i2), .val (.int i3), .val (.int i4), .val (.ref bs), .val (.int nn), .val (.int f0), .val (.int st), .val (.ref b), .val (.int ll), .val (.ref s), .val .null, .unset]) (S' := [(.ref taq2)]) rfl rfl rfl rfl rfl ?_
            refine aload (pc' := 325) at_323 rfl rfl rfl ?_
            refine strEq (i := 6) (Wd := 0) (pc' := 328) hB (by decide +kernel) rfl (kVirt (i := 122) (i2 := 107) (i3 := 109) (i4 := 108) (C := "java/lang/String") (a := taq2) (argsL := [(.ref s)]) (S' := []) (Wd := 0) at_325 rfl rfl rfl rfl Stq2.exa (by decide) rfl pd_5 rfl rfl (Nat.le_of_ble_eq_true rfl)) Stq2 Ss (by decide) (by decide) (by decide) (by decide) rfl fun b2 q2 => ?_
            obtain rfl : b2 = 0 := by rcases q2 with ⟨r, q⟩ | ⟨r, q⟩ <;> first | exact r | exact absurd q.symm g2
            refine ifT (pc' := 339) at_328 (by decide : (0 : Int32) = (0 : Int32)) (by decide) rfl ?_
            refine ldcText (i := 125) (n := 28) (cs := ([99, 111, 109, 98, 109, 110, 122] : List Int32)) (pc' := 341) at_339 rfl (by decide +kernel) (by decide) rfl ⟨by decide +kernel, by decide +kernel⟩ (by decide) (by decide) (by decide +kernel) (by decide) (by decide) (by decide) rfl fun hq3 taq3 TEq3 Stq3 TNq3 => ?_
            replace Ss := Ss.ext TEq3
            replace Stq0 := Stq0.ext TEq3
            replace Stq1 := Stq1.ext TEq3
            replace Stq2 := Stq2.ext TEq3
            refine at' (ce' := 19) (sl' := 229) (pc' := 341) (L' := #[.val (.int i0), .val (.int i1), .val (.int i2), .val (.int i3), .val (.int i4), .val (.ref bs), .val (.int nn), .val (.int f0), .val (.int st), .val (.ref b), .val (.int ll), .val (.ref s), .val .null, .unset]) (S' := [(.ref taq3)]) rfl rfl rfl rfl rfl ?_
            refine aload (pc' := 343) at_341 rfl rfl rfl ?_
            refine strEq (i := 6) (Wd := 0) (pc' := 346) hB (by decide +kernel) rfl (kVirt (i := 122) (i2 := 107) (i3 := 109) (i4 := 108) (C := "java/lang/String") (a := taq3) (argsL := [(.ref s)]) (S' := []) (Wd := 0) at_343 rfl rfl rfl rfl Stq3.exa (by decide) rfl pd_5 rfl rfl (Nat.le_of_ble_eq_true rfl)) Stq3 Ss (by decide) (by decide) (by decide) (by decide) rfl fun b3 q3 => ?_
            obtain rfl : b3 = 0 := by rcases q3 with ⟨r, q⟩ | ⟨r, q⟩ <;> first | exact r | exact absurd q.symm g3
            refine ifT (pc' := 357) at_346 (by decide : (0 : Int32) = (0 : Int32)) (by decide) rfl ?_
            refine aconst_null (pc' := 358) at_357 rfl ?_
            refine astore (pc' := 360) (L' := #[.val (.int i0), .val (.int i1), .val (.int i2), .val (.int i3), .val (.int i4), .val (.ref bs), .val (.int nn), .val (.int f0), .val (.int st), .val (.ref b), .val (.int ll), .val (.ref s), .val .null, .val .null]) at_358 rfl rfl rfl ?_
            refine aload (pc' := 362) at_360 rfl rfl rfl ?_
            refine aload (pc' := 364) at_362 rfl rfl rfl ?_
            refine acmp (pc' := 367) (v := .null) (w := .null) true at_364 rfl rfl (decide_eq_true rfl) (by decide) rfl ?_
            refine iconst (pc' := 368) (v := (1 : Int32)) at_367 rfl rfl ?_
            refine goto (pc' := 372) at_368 (by decide) rfl ?_
            exact retI at_372 rfl (Or.inr (Or.inl rfl)) rfl (by decide) (by decide) rfl
  have J221 : ∀ (hh : Heap) (bs b : Addr) (nn f0 st : Int32) (kb : ClassId) (d0 d1 d2 d3 d4 d5 d6 d7 d8 d9 d10 : Int32), t12 nn → ok d0 → ok d1 → ok d2 → ok d3 → ok d4 → ok d5 → ok d6 → ok d7 → ok d8 → ok d9 → ok d10 → Arv Z hh b kb .char (11 : Int32) [(.int d0), (.int d1), (.int d2), (.int d3), (.int d4), (.int d5), (.int d6), (.int d7), (.int d8), (.int d9), (.int d10)] (.int (0 : Int32)) → Wq l false Z consts_1 a0 n0 x code maxLocals ret room_1 h (fun v h' => v = some (.int 1)) [] hh 3 59 221 #[.val (.int i0), .val (.int i1), .val (.int i2), .val (.int i3), .val (.int i4), .val (.ref bs), .val (.int nn), .val (.int f0), .val (.int st), .val (.ref b), .unset, .unset, .unset, .unset] [] := by
    intro hh bs b nn f0 st kb d0 d1 d2 d3 d4 d5 d6 d7 d8 d9 d10 hnn hd0 hd1 hd2 hd3 hd4 hd5 hd6 hd7 hd8 hd9 hd10 Ab
    have J240 : ∀ ll : Int32, t12 ll → Wq l false Z consts_1 a0 n0 x code maxLocals ret room_1 h (fun v h' => v = some (.int 1)) [] hh 3 59 240 #[.val (.int i0), .val (.int i1), .val (.int i2), .val (.int i3), .val (.int i4), .val (.ref bs), .val (.int nn), .val (.int f0), .val (.int st), .val (.ref b), .unset, .unset, .unset, .unset] [(.int ll)] := by
      intro ll hll
      refine istore (pc' := 242) (L' := #[.val (.int i0), .val (.int i1), .val (.int i2), .val (.int i3), .val (.int i4), .val (.ref bs), .val (.int nn), .val (.int f0), .val (.int st), .val (.ref b), .val (.int ll), .unset, .unset, .unset]) at_240 rfl rfl ?_
      refine iloadN (pc' := 243) at_242 rfl rfl ?_
      refine bipush (pc' := 245) (v := (12 : Int32)) at_243 rfl rfl ?_
      refine iand (pc' := 246) at_245 rfl ?_
      refine bipush (pc' := 248) (v := (12 : Int32)) at_246 rfl rfl ?_
      refine icmp (pc' := 255) (pcF := 251) at_248 (by decide) rfl rfl (fun (qm : ¬ ((i1 &&& (12 : Int32)) = (12 : Int32))) => ?_) (fun (qm : (i1 &&& (12 : Int32)) = (12 : Int32)) => ?_)
      · skip
        refine new (i := 52) (i2 := 6) (i3 := 5) (pc' := 258) at_255 rfl rfl rfl (by decide) (by decide) rfl fun h427 a428 g429 E430 A431 D432 => ?_
        have ne_b_a428 : b ≠ a428 := Nat.ne_of_lt (by rw [g429]; exact Ab.lt)
        replace Ab := Ab.ext E430
        have F_value_a428 : Fld Z h427 a428 "java/lang/String" "value" "[B" .null := D432 (Or.inr (hw _ (List.mem_of_getElem? (i := 8) rfl))) (ty := (.array .byte)) (by decide)
        have F_coder_a428 : Fld Z h427 a428 "java/lang/String" "coder" "B" (.int (0 : Int32)) := D432 (Or.inr (hw _ (List.mem_of_getElem? (i := 9) rfl))) (ty := .byte) (by decide)
        refine dup (pc' := 259) at_258 rfl rfl ?_
        refine aload (pc' := 261) at_259 rfl rfl rfl ?_
        refine iload (pc' := 263) at_261 rfl rfl ?_
        refine call (i := 55) (i2 := 2) (Wd := 2) (pc' := 266) (kStatic (i := 53) (i2 := 54) (i3 := 2) (i4 := 55) (argsL := [(.ref b), (.int ll)]) (S' := [(.ref a428), (.ref a428)]) (Wd := 2) at_263 rfl rfl rfl rfl (by decide) rfl pd_10 rfl rfl (Nat.le_of_ble_eq_true rfl)) (rm_cut l Z a0 hw hEL n0 b kb d0 d1 d2 d3 d4 d5 d6 d7 d8 d9 d10 ll _ Ab hll hd0 hd1 hd2 hd3 hd4 hd5 hd6 hd7 hd8 hd9 hd10) rfl rfl (by simp) (by decide) (by decide) (by decide) (by decide) rfl fun v_ h433 P434 sz435 => ?_
        obtain ⟨r, kr, es, rfl, Xr, hel, hes, Ar⟩ := P434
        replace Ab := Ab.ext Xr
        replace A431 := A431.ext Xr
        replace F_value_a428 := F_value_a428.ext Xr
        replace F_coder_a428 := F_coder_a428.ext Xr
        refine at' (ce' := 5) (sl' := 74) (pc' := 266) (L' := #[.val (.int i0), .val (.int i1), .val (.int i2), .val (.int i3), .val (.int i4), .val (.ref bs), .val (.int nn), .val (.int f0), .val (.int st), .val (.ref b), .val (.int ll), .unset, .unset, .unset]) (S' := [(.ref r), (.ref a428), (.ref a428)]) rfl rfl rfl rfl rfl ?_
        refine strNewW (i := 6) (Wd := 1) (n := es.length) (cs := es) (pc' := 269) hB (by decide +kernel) rfl (kInit (i := 56) (i2 := 57) (i4 := 58) (a := a428) (argsL := [(.ref r)]) (S' := [(.ref a428)]) (Wd := 1) at_266 rfl rfl rfl rfl (by decide) rfl pd_11 rfl rfl (Nat.le_of_ble_eq_true rfl)) A431 F_value_a428 F_coder_a428 Ar rfl rfl (by omega) hes (by simp) (by decide) (by decide) (by decide) (by show 74 + (es.length + 8) ≤ 6336; omega) rfl fun hs Ks Ss => ?_
        exact fewer (fs' := []) (fun _ q => nomatch q) (more (ce' := 9) (sl' := 100) (by decide) (by show 74 + (es.length + 8) ≤ 100; omega) (JR _ _ _ _ _ _ _ _ es Ss))
      · skip
        refine aconst_null (pc' := 252) at_251 rfl ?_
        refine goto (pc' := 269) at_252 (by decide) rfl ?_
        exact fewer (fs' := []) (fun _ q => nomatch q) (more (ce' := 9) (sl' := 100) (by decide) (by decide) (JN _ _ _ _ _ _ _))
    refine iloadN (pc' := 222) at_221 rfl rfl ?_
    refine iconst (pc' := 223) (v := (2 : Int32)) at_222 rfl rfl ?_
    refine iand (pc' := 224) at_223 rfl ?_
    refine ifc (pc' := 232) (pcF := 227) at_224 (by decide) rfl rfl (fun (ql : (i1 &&& (2 : Int32)) = (0 : Int32)) => ?_) (fun (ql : ¬ ((i1 &&& (2 : Int32)) = (0 : Int32))) => ?_)
    · skip
      refine iload (pc' := 234) at_232 rfl rfl ?_
      refine ldcInt (i := 51) (v := (2147483647 : Int32)) (pc' := 236) at_234 rfl rfl ?_
      refine iand (pc' := 237) at_236 rfl ?_
      refine bipush (pc' := 239) (v := (12 : Int32)) at_237 rfl rfl ?_
      refine irem (pc' := 240) at_239 (by decide) rfl ?_
      exact J240 _ (own_12 (c_and _ _ (by decide)).1)
    · skip
      refine iload (pc' := 229) at_227 rfl rfl ?_
      refine goto (pc' := 240) at_229 (by decide) rfl ?_
      exact J240 _ hnn
  refine iloadN (pc' := 1) at_0 rfl rfl ?_
  refine bipush (pc' := 3) (v := (7 : Int32)) at_1 rfl rfl ?_
  refine iand (pc' := 4) at_3 rfl ?_
  refine call (i := 3) (i2 := 2) (Wd := 0) (pc' := 7) (kStatic (i := 0) (i2 := 1) (i3 := 2) (i4 := 3) (argsL := [(.int (i0 &&& (7 : Int32)))]) (S' := []) (Wd := 0) at_4 rfl rfl rfl rfl (by decide) rfl pd_12 rfl rfl (Nat.le_of_ble_eq_true rfl)) (rm_base l Z a0 hw hEL n0 (i0 &&& (7 : Int32)) _) rfl rfl (by simp) (by decide) (by decide) (by decide) (by decide) rfl fun v_ h436 P437 sz438 => ?_
  obtain ⟨bs, cb, rfl, Xb, Sb, hcb⟩ := P437
  refine at' (ce' := 2) (sl' := 44) (pc' := 7) (L' := #[.val (.int i0), .val (.int i1), .val (.int i2), .val (.int i3), .val (.int i4), .unset, .unset, .unset, .unset, .unset, .unset, .unset, .unset, .unset]) (S' := [(.ref bs)]) rfl rfl rfl rfl rfl ?_
  refine astore (pc' := 9) (L' := #[.val (.int i0), .val (.int i1), .val (.int i2), .val (.int i3), .val (.int i4), .val (.ref bs), .unset, .unset, .unset, .unset, .unset, .unset, .unset, .unset]) at_7 rfl rfl rfl ?_
  refine aload (pc' := 11) at_9 rfl rfl rfl ?_
  refine strLen (i := 6) (Wd := 0) (cs := cb) (pc' := 14) hB (by decide +kernel) rfl (kVirt (i := 12) (i2 := 13) (i3 := 15) (i4 := 14) (C := "java/lang/String") (a := bs) (argsL := []) (S' := []) (Wd := 0) at_11 rfl rfl rfl rfl Sb.exa (by decide) rfl pd_7 rfl rfl (Nat.le_of_ble_eq_true rfl)) Sb (by decide) (by decide) (by decide) (by decide) rfl ?_
  refine at' (ce' := 2) (sl' := 44) (pc' := 14) (L' := #[.val (.int i0), .val (.int i1), .val (.int i2), .val (.int i3), .val (.int i4), .val (.ref bs), .unset, .unset, .unset, .unset, .unset, .unset, .unset, .unset]) (S' := [(.int (Int32.ofNat (cb).length))]) rfl rfl rfl rfl rfl ?_
  have K : Keep h436 h436 [] := Keep.refl _ _
  refine istore (pc' := 16) (L' := #[.val (.int i0), .val (.int i1), .val (.int i2), .val (.int i3), .val (.int i4), .val (.ref bs), .val (.int (Int32.ofNat (cb).length)), .unset, .unset, .unset, .unset, .unset, .unset, .unset]) at_14 rfl rfl ?_
  refine iloadN (pc' := 17) at_16 rfl rfl ?_
  refine bipush (pc' := 19) (v := (8 : Int32)) at_17 rfl rfl ?_
  refine iushr (pc' := 20) at_19 rfl ?_
  refine istore (pc' := 22) (L' := #[.val (.int i0), .val (.int i1), .val (.int i2), .val (.int i3), .val (.int i4), .val (.ref bs), .val (.int (Int32.ofNat (cb).length)), .val (.int ((i3.toUInt32 >>> ((8 : Int32) &&& 31).toUInt32).toInt32)), .unset, .unset, .unset, .unset, .unset, .unset]) at_20 rfl rfl ?_
  refine iload (pc' := 24) at_22 rfl rfl ?_
  refine bipush (pc' := 26) (v := (16 : Int32)) at_24 rfl rfl ?_
  refine iushr (pc' := 27) at_26 rfl ?_
  refine istore (pc' := 29) (L' := #[.val (.int i0), .val (.int i1), .val (.int i2), .val (.int i3), .val (.int i4), .val (.ref bs), .val (.int (Int32.ofNat (cb).length)), .val (.int ((i3.toUInt32 >>> ((8 : Int32) &&& 31).toUInt32).toInt32)), .val (.int ((i4.toUInt32 >>> ((16 : Int32) &&& 31).toUInt32).toInt32)), .unset, .unset, .unset, .unset, .unset]) at_27 rfl rfl ?_
  refine bipush (pc' := 31) (v := (11 : Int32)) at_29 rfl rfl ?_
  refine newarray (i := 25) (cap := 11) (ty := .char) (pc' := 33) at_31 rfl rfl (by decide) (by decide) (by decide) (by decide) (by decide) rfl fun h439 a440 kc444 g441 E442 V443 => ?_
  have sz_a440 : h436.size ≤ a440 := by rw [g441]; exact K.1
  replace K := K.ext E442
  replace V443 : Arv Z h439 a440 kc444 .char (11 : Int32) [(.int (0 : Int32)), (.int (0 : Int32)), (.int (0 : Int32)), (.int (0 : Int32)), (.int (0 : Int32)), (.int (0 : Int32)), (.int (0 : Int32)), (.int (0 : Int32)), (.int (0 : Int32)), (.int (0 : Int32)), (.int (0 : Int32))] (.int (0 : Int32)) := V443.pad (pad_rep [] (.int (0 : Int32)) 11)
  refine astore (pc' := 35) (L' := #[.val (.int i0), .val (.int i1), .val (.int i2), .val (.int i3), .val (.int i4), .val (.ref bs), .val (.int (Int32.ofNat (cb).length)), .val (.int ((i3.toUInt32 >>> ((8 : Int32) &&& 31).toUInt32).toInt32)), .val (.int ((i4.toUInt32 >>> ((16 : Int32) &&& 31).toUInt32).toInt32)), .val (.ref a440), .unset, .unset, .unset, .unset]) at_33 rfl rfl rfl ?_
  refine aload (pc' := 37) at_35 rfl rfl rfl ?_
  refine iconst (pc' := 38) (v := (0 : Int32)) at_37 rfl rfl ?_
  refine aload (pc' := 40) at_38 rfl rfl rfl ?_
  refine iconst (pc' := 41) (v := (0 : Int32)) at_40 rfl rfl ?_
  refine iload (pc' := 43) at_41 rfl rfl ?_
  refine iload (pc' := 45) at_43 rfl rfl ?_
  refine call (i := 28) (i2 := 2) (Wd := 2) (pc' := 48) (kStatic (i := 26) (i2 := 27) (i3 := 2) (i4 := 28) (argsL := [(.ref bs), (.int (0 : Int32)), (.int ((i3.toUInt32 >>> ((8 : Int32) &&& 31).toUInt32).toInt32)), (.int ((i4.toUInt32 >>> ((16 : Int32) &&& 31).toUInt32).toInt32))]) (S' := [(.int (0 : Int32)), (.ref a440)]) (Wd := 2) at_45 rfl rfl rfl rfl (by decide) rfl pd_13 rfl rfl (Nat.le_of_ble_eq_true rfl)) (rm_at l Z a0 hw hEL n0 bs cb 0 ((i3.toUInt32 >>> ((8 : Int32) &&& 31).toUInt32).toInt32) ((i4.toUInt32 >>> ((16 : Int32) &&& 31).toUInt32).toInt32) 0 _ (Sb.ext (keepExt K)) hB rfl (by decide) hcb) rfl rfl (by simp) (by decide) (by decide) (by decide) (by decide) rfl fun v_ h445 P446 sz447 => ?_
  obtain ⟨⟨d0, rfl, hd0⟩, e448⟩ := P446
  rw [e448]
  refine at' (ce' := 3) (sl' := 55) (pc' := 48) (L' := #[.val (.int i0), .val (.int i1), .val (.int i2), .val (.int i3), .val (.int i4), .val (.ref bs), .val (.int (Int32.ofNat (cb).length)), .val (.int ((i3.toUInt32 >>> ((8 : Int32) &&& 31).toUInt32).toInt32)), .val (.int ((i4.toUInt32 >>> ((16 : Int32) &&& 31).toUInt32).toInt32)), .val (.ref a440), .unset, .unset, .unset, .unset]) (S' := [(.int d0), (.int (0 : Int32)), (.ref a440)]) rfl rfl rfl rfl rfl ?_
  refine castore (pc' := 49) at_48 V443 ⟨by decide, by decide⟩ (by simp) (Nat.le_of_ble_eq_true rfl) rfl fun h449 W450 V451 => ?_
  replace K := K.wr W450 (Or.inr sz_a440)
  replace V443 : Arv Z h449 a440 kc444 .char (11 : Int32) [(.int (nar .char d0)), (.int (0 : Int32)), (.int (0 : Int32)), (.int (0 : Int32)), (.int (0 : Int32)), (.int (0 : Int32)), (.int (0 : Int32)), (.int (0 : Int32)), (.int (0 : Int32)), (.int (0 : Int32)), (.int (0 : Int32))] (.int (0 : Int32)) := V451
  refine aload (pc' := 51) at_49 rfl rfl rfl ?_
  refine iconst (pc' := 52) (v := (1 : Int32)) at_51 rfl rfl ?_
  refine aload (pc' := 54) at_52 rfl rfl rfl ?_
  refine iconst (pc' := 55) (v := (1 : Int32)) at_54 rfl rfl ?_
  refine iload (pc' := 57) at_55 rfl rfl ?_
  refine iload (pc' := 59) at_57 rfl rfl ?_
  refine call (i := 28) (i2 := 2) (Wd := 2) (pc' := 62) (kStatic (i := 26) (i2 := 27) (i3 := 2) (i4 := 28) (argsL := [(.ref bs), (.int (1 : Int32)), (.int ((i3.toUInt32 >>> ((8 : Int32) &&& 31).toUInt32).toInt32)), (.int ((i4.toUInt32 >>> ((16 : Int32) &&& 31).toUInt32).toInt32))]) (S' := [(.int (1 : Int32)), (.ref a440)]) (Wd := 2) at_59 rfl rfl rfl rfl (by decide) rfl pd_13 rfl rfl (Nat.le_of_ble_eq_true rfl)) (rm_at l Z a0 hw hEL n0 bs cb 1 ((i3.toUInt32 >>> ((8 : Int32) &&& 31).toUInt32).toInt32) ((i4.toUInt32 >>> ((16 : Int32) &&& 31).toUInt32).toInt32) 1 _ (Sb.ext (keepExt K)) hB rfl (by decide) hcb) rfl rfl (by simp) (by decide) (by decide) (by decide) (by decide) rfl fun v_ h452 P453 sz454 => ?_
  obtain ⟨⟨d1, rfl, hd1⟩, e455⟩ := P453
  rw [e455]
  refine at' (ce' := 3) (sl' := 55) (pc' := 62) (L' := #[.val (.int i0), .val (.int i1), .val (.int i2), .val (.int i3), .val (.int i4), .val (.ref bs), .val (.int (Int32.ofNat (cb).length)), .val (.int ((i3.toUInt32 >>> ((8 : Int32) &&& 31).toUInt32).toInt32)), .val (.int ((i4.toUInt32 >>> ((16 : Int32) &&& 31).toUInt32).toInt32)), .val (.ref a440), .unset, .unset, .unset, .unset]) (S' := [(.int d1), (.int (1 : Int32)), (.ref a440)]) rfl rfl rfl rfl rfl ?_
  refine castore (pc' := 63) at_62 V443 ⟨by decide, by decide⟩ (by simp) (Nat.le_of_ble_eq_true rfl) rfl fun h456 W457 V458 => ?_
  replace K := K.wr W457 (Or.inr sz_a440)
  replace V443 : Arv Z h456 a440 kc444 .char (11 : Int32) [(.int (nar .char d0)), (.int (nar .char d1)), (.int (0 : Int32)), (.int (0 : Int32)), (.int (0 : Int32)), (.int (0 : Int32)), (.int (0 : Int32)), (.int (0 : Int32)), (.int (0 : Int32)), (.int (0 : Int32)), (.int (0 : Int32))] (.int (0 : Int32)) := V458
  refine aload (pc' := 65) at_63 rfl rfl rfl ?_
  refine iconst (pc' := 66) (v := (2 : Int32)) at_65 rfl rfl ?_
  refine aload (pc' := 68) at_66 rfl rfl rfl ?_
  refine iconst (pc' := 69) (v := (2 : Int32)) at_68 rfl rfl ?_
  refine iload (pc' := 71) at_69 rfl rfl ?_
  refine iload (pc' := 73) at_71 rfl rfl ?_
  refine call (i := 28) (i2 := 2) (Wd := 2) (pc' := 76) (kStatic (i := 26) (i2 := 27) (i3 := 2) (i4 := 28) (argsL := [(.ref bs), (.int (2 : Int32)), (.int ((i3.toUInt32 >>> ((8 : Int32) &&& 31).toUInt32).toInt32)), (.int ((i4.toUInt32 >>> ((16 : Int32) &&& 31).toUInt32).toInt32))]) (S' := [(.int (2 : Int32)), (.ref a440)]) (Wd := 2) at_73 rfl rfl rfl rfl (by decide) rfl pd_13 rfl rfl (Nat.le_of_ble_eq_true rfl)) (rm_at l Z a0 hw hEL n0 bs cb 2 ((i3.toUInt32 >>> ((8 : Int32) &&& 31).toUInt32).toInt32) ((i4.toUInt32 >>> ((16 : Int32) &&& 31).toUInt32).toInt32) 2 _ (Sb.ext (keepExt K)) hB rfl (by decide) hcb) rfl rfl (by simp) (by decide) (by decide) (by decide) (by decide) rfl fun v_ h459 P460 sz461 => ?_
  obtain ⟨⟨d2, rfl, hd2⟩, e462⟩ := P460
  rw [e462]
  refine at' (ce' := 3) (sl' := 55) (pc' := 76) (L' := #[.val (.int i0), .val (.int i1), .val (.int i2), .val (.int i3), .val (.int i4), .val (.ref bs), .val (.int (Int32.ofNat (cb).length)), .val (.int ((i3.toUInt32 >>> ((8 : Int32) &&& 31).toUInt32).toInt32)), .val (.int ((i4.toUInt32 >>> ((16 : Int32) &&& 31).toUInt32).toInt32)), .val (.ref a440), .unset, .unset, .unset, .unset]) (S' := [(.int d2), (.int (2 : Int32)), (.ref a440)]) rfl rfl rfl rfl rfl ?_
  refine castore (pc' := 77) at_76 V443 ⟨by decide, by decide⟩ (by simp) (Nat.le_of_ble_eq_true rfl) rfl fun h463 W464 V465 => ?_
  replace K := K.wr W464 (Or.inr sz_a440)
  replace V443 : Arv Z h463 a440 kc444 .char (11 : Int32) [(.int (nar .char d0)), (.int (nar .char d1)), (.int (nar .char d2)), (.int (0 : Int32)), (.int (0 : Int32)), (.int (0 : Int32)), (.int (0 : Int32)), (.int (0 : Int32)), (.int (0 : Int32)), (.int (0 : Int32)), (.int (0 : Int32))] (.int (0 : Int32)) := V465
  refine aload (pc' := 79) at_77 rfl rfl rfl ?_
  refine iconst (pc' := 80) (v := (3 : Int32)) at_79 rfl rfl ?_
  refine aload (pc' := 82) at_80 rfl rfl rfl ?_
  refine iconst (pc' := 83) (v := (3 : Int32)) at_82 rfl rfl ?_
  refine iload (pc' := 85) at_83 rfl rfl ?_
  refine iload (pc' := 87) at_85 rfl rfl ?_
  refine call (i := 28) (i2 := 2) (Wd := 2) (pc' := 90) (kStatic (i := 26) (i2 := 27) (i3 := 2) (i4 := 28) (argsL := [(.ref bs), (.int (3 : Int32)), (.int ((i3.toUInt32 >>> ((8 : Int32) &&& 31).toUInt32).toInt32)), (.int ((i4.toUInt32 >>> ((16 : Int32) &&& 31).toUInt32).toInt32))]) (S' := [(.int (3 : Int32)), (.ref a440)]) (Wd := 2) at_87 rfl rfl rfl rfl (by decide) rfl pd_13 rfl rfl (Nat.le_of_ble_eq_true rfl)) (rm_at l Z a0 hw hEL n0 bs cb 3 ((i3.toUInt32 >>> ((8 : Int32) &&& 31).toUInt32).toInt32) ((i4.toUInt32 >>> ((16 : Int32) &&& 31).toUInt32).toInt32) 3 _ (Sb.ext (keepExt K)) hB rfl (by decide) hcb) rfl rfl (by simp) (by decide) (by decide) (by decide) (by decide) rfl fun v_ h466 P467 sz468 => ?_
  obtain ⟨⟨d3, rfl, hd3⟩, e469⟩ := P467
  rw [e469]
  refine at' (ce' := 3) (sl' := 55) (pc' := 90) (L' := #[.val (.int i0), .val (.int i1), .val (.int i2), .val (.int i3), .val (.int i4), .val (.ref bs), .val (.int (Int32.ofNat (cb).length)), .val (.int ((i3.toUInt32 >>> ((8 : Int32) &&& 31).toUInt32).toInt32)), .val (.int ((i4.toUInt32 >>> ((16 : Int32) &&& 31).toUInt32).toInt32)), .val (.ref a440), .unset, .unset, .unset, .unset]) (S' := [(.int d3), (.int (3 : Int32)), (.ref a440)]) rfl rfl rfl rfl rfl ?_
  refine castore (pc' := 91) at_90 V443 ⟨by decide, by decide⟩ (by simp) (Nat.le_of_ble_eq_true rfl) rfl fun h470 W471 V472 => ?_
  replace K := K.wr W471 (Or.inr sz_a440)
  replace V443 : Arv Z h470 a440 kc444 .char (11 : Int32) [(.int (nar .char d0)), (.int (nar .char d1)), (.int (nar .char d2)), (.int (nar .char d3)), (.int (0 : Int32)), (.int (0 : Int32)), (.int (0 : Int32)), (.int (0 : Int32)), (.int (0 : Int32)), (.int (0 : Int32)), (.int (0 : Int32))] (.int (0 : Int32)) := V472
  refine aload (pc' := 93) at_91 rfl rfl rfl ?_
  refine iconst (pc' := 94) (v := (4 : Int32)) at_93 rfl rfl ?_
  refine aload (pc' := 96) at_94 rfl rfl rfl ?_
  refine iconst (pc' := 97) (v := (4 : Int32)) at_96 rfl rfl ?_
  refine iload (pc' := 99) at_97 rfl rfl ?_
  refine iload (pc' := 101) at_99 rfl rfl ?_
  refine call (i := 28) (i2 := 2) (Wd := 2) (pc' := 104) (kStatic (i := 26) (i2 := 27) (i3 := 2) (i4 := 28) (argsL := [(.ref bs), (.int (4 : Int32)), (.int ((i3.toUInt32 >>> ((8 : Int32) &&& 31).toUInt32).toInt32)), (.int ((i4.toUInt32 >>> ((16 : Int32) &&& 31).toUInt32).toInt32))]) (S' := [(.int (4 : Int32)), (.ref a440)]) (Wd := 2) at_101 rfl rfl rfl rfl (by decide) rfl pd_13 rfl rfl (Nat.le_of_ble_eq_true rfl)) (rm_at l Z a0 hw hEL n0 bs cb 4 ((i3.toUInt32 >>> ((8 : Int32) &&& 31).toUInt32).toInt32) ((i4.toUInt32 >>> ((16 : Int32) &&& 31).toUInt32).toInt32) 4 _ (Sb.ext (keepExt K)) hB rfl (by decide) hcb) rfl rfl (by simp) (by decide) (by decide) (by decide) (by decide) rfl fun v_ h473 P474 sz475 => ?_
  obtain ⟨⟨d4, rfl, hd4⟩, e476⟩ := P474
  rw [e476]
  refine at' (ce' := 3) (sl' := 55) (pc' := 104) (L' := #[.val (.int i0), .val (.int i1), .val (.int i2), .val (.int i3), .val (.int i4), .val (.ref bs), .val (.int (Int32.ofNat (cb).length)), .val (.int ((i3.toUInt32 >>> ((8 : Int32) &&& 31).toUInt32).toInt32)), .val (.int ((i4.toUInt32 >>> ((16 : Int32) &&& 31).toUInt32).toInt32)), .val (.ref a440), .unset, .unset, .unset, .unset]) (S' := [(.int d4), (.int (4 : Int32)), (.ref a440)]) rfl rfl rfl rfl rfl ?_
  refine castore (pc' := 105) at_104 V443 ⟨by decide, by decide⟩ (by simp) (Nat.le_of_ble_eq_true rfl) rfl fun h477 W478 V479 => ?_
  replace K := K.wr W478 (Or.inr sz_a440)
  replace V443 : Arv Z h477 a440 kc444 .char (11 : Int32) [(.int (nar .char d0)), (.int (nar .char d1)), (.int (nar .char d2)), (.int (nar .char d3)), (.int (nar .char d4)), (.int (0 : Int32)), (.int (0 : Int32)), (.int (0 : Int32)), (.int (0 : Int32)), (.int (0 : Int32)), (.int (0 : Int32))] (.int (0 : Int32)) := V479
  refine aload (pc' := 107) at_105 rfl rfl rfl ?_
  refine iconst (pc' := 108) (v := (5 : Int32)) at_107 rfl rfl ?_
  refine aload (pc' := 110) at_108 rfl rfl rfl ?_
  refine iconst (pc' := 111) (v := (5 : Int32)) at_110 rfl rfl ?_
  refine iload (pc' := 113) at_111 rfl rfl ?_
  refine iload (pc' := 115) at_113 rfl rfl ?_
  refine call (i := 28) (i2 := 2) (Wd := 2) (pc' := 118) (kStatic (i := 26) (i2 := 27) (i3 := 2) (i4 := 28) (argsL := [(.ref bs), (.int (5 : Int32)), (.int ((i3.toUInt32 >>> ((8 : Int32) &&& 31).toUInt32).toInt32)), (.int ((i4.toUInt32 >>> ((16 : Int32) &&& 31).toUInt32).toInt32))]) (S' := [(.int (5 : Int32)), (.ref a440)]) (Wd := 2) at_115 rfl rfl rfl rfl (by decide) rfl pd_13 rfl rfl (Nat.le_of_ble_eq_true rfl)) (rm_at l Z a0 hw hEL n0 bs cb 5 ((i3.toUInt32 >>> ((8 : Int32) &&& 31).toUInt32).toInt32) ((i4.toUInt32 >>> ((16 : Int32) &&& 31).toUInt32).toInt32) 5 _ (Sb.ext (keepExt K)) hB rfl (by decide) hcb) rfl rfl (by simp) (by decide) (by decide) (by decide) (by decide) rfl fun v_ h480 P481 sz482 => ?_
  obtain ⟨⟨d5, rfl, hd5⟩, e483⟩ := P481
  rw [e483]
  refine at' (ce' := 3) (sl' := 55) (pc' := 118) (L' := #[.val (.int i0), .val (.int i1), .val (.int i2), .val (.int i3), .val (.int i4), .val (.ref bs), .val (.int (Int32.ofNat (cb).length)), .val (.int ((i3.toUInt32 >>> ((8 : Int32) &&& 31).toUInt32).toInt32)), .val (.int ((i4.toUInt32 >>> ((16 : Int32) &&& 31).toUInt32).toInt32)), .val (.ref a440), .unset, .unset, .unset, .unset]) (S' := [(.int d5), (.int (5 : Int32)), (.ref a440)]) rfl rfl rfl rfl rfl ?_
  refine castore (pc' := 119) at_118 V443 ⟨by decide, by decide⟩ (by simp) (Nat.le_of_ble_eq_true rfl) rfl fun h484 W485 V486 => ?_
  replace K := K.wr W485 (Or.inr sz_a440)
  replace V443 : Arv Z h484 a440 kc444 .char (11 : Int32) [(.int (nar .char d0)), (.int (nar .char d1)), (.int (nar .char d2)), (.int (nar .char d3)), (.int (nar .char d4)), (.int (nar .char d5)), (.int (0 : Int32)), (.int (0 : Int32)), (.int (0 : Int32)), (.int (0 : Int32)), (.int (0 : Int32))] (.int (0 : Int32)) := V486
  refine aload (pc' := 121) at_119 rfl rfl rfl ?_
  refine bipush (pc' := 123) (v := (6 : Int32)) at_121 rfl rfl ?_
  refine aload (pc' := 125) at_123 rfl rfl rfl ?_
  refine bipush (pc' := 127) (v := (6 : Int32)) at_125 rfl rfl ?_
  refine iload (pc' := 129) at_127 rfl rfl ?_
  refine iload (pc' := 131) at_129 rfl rfl ?_
  refine call (i := 28) (i2 := 2) (Wd := 2) (pc' := 134) (kStatic (i := 26) (i2 := 27) (i3 := 2) (i4 := 28) (argsL := [(.ref bs), (.int (6 : Int32)), (.int ((i3.toUInt32 >>> ((8 : Int32) &&& 31).toUInt32).toInt32)), (.int ((i4.toUInt32 >>> ((16 : Int32) &&& 31).toUInt32).toInt32))]) (S' := [(.int (6 : Int32)), (.ref a440)]) (Wd := 2) at_131 rfl rfl rfl rfl (by decide) rfl pd_13 rfl rfl (Nat.le_of_ble_eq_true rfl)) (rm_at l Z a0 hw hEL n0 bs cb 6 ((i3.toUInt32 >>> ((8 : Int32) &&& 31).toUInt32).toInt32) ((i4.toUInt32 >>> ((16 : Int32) &&& 31).toUInt32).toInt32) 6 _ (Sb.ext (keepExt K)) hB rfl (by decide) hcb) rfl rfl (by simp) (by decide) (by decide) (by decide) (by decide) rfl fun v_ h487 P488 sz489 => ?_
  obtain ⟨⟨d6, rfl, hd6⟩, e490⟩ := P488
  rw [e490]
  refine at' (ce' := 3) (sl' := 55) (pc' := 134) (L' := #[.val (.int i0), .val (.int i1), .val (.int i2), .val (.int i3), .val (.int i4), .val (.ref bs), .val (.int (Int32.ofNat (cb).length)), .val (.int ((i3.toUInt32 >>> ((8 : Int32) &&& 31).toUInt32).toInt32)), .val (.int ((i4.toUInt32 >>> ((16 : Int32) &&& 31).toUInt32).toInt32)), .val (.ref a440), .unset, .unset, .unset, .unset]) (S' := [(.int d6), (.int (6 : Int32)), (.ref a440)]) rfl rfl rfl rfl rfl ?_
  refine castore (pc' := 135) at_134 V443 ⟨by decide, by decide⟩ (by simp) (Nat.le_of_ble_eq_true rfl) rfl fun h491 W492 V493 => ?_
  replace K := K.wr W492 (Or.inr sz_a440)
  replace V443 : Arv Z h491 a440 kc444 .char (11 : Int32) [(.int (nar .char d0)), (.int (nar .char d1)), (.int (nar .char d2)), (.int (nar .char d3)), (.int (nar .char d4)), (.int (nar .char d5)), (.int (nar .char d6)), (.int (0 : Int32)), (.int (0 : Int32)), (.int (0 : Int32)), (.int (0 : Int32))] (.int (0 : Int32)) := V493
  refine aload (pc' := 137) at_135 rfl rfl rfl ?_
  refine bipush (pc' := 139) (v := (7 : Int32)) at_137 rfl rfl ?_
  refine aload (pc' := 141) at_139 rfl rfl rfl ?_
  refine bipush (pc' := 143) (v := (7 : Int32)) at_141 rfl rfl ?_
  refine iload (pc' := 145) at_143 rfl rfl ?_
  refine iload (pc' := 147) at_145 rfl rfl ?_
  refine call (i := 28) (i2 := 2) (Wd := 2) (pc' := 150) (kStatic (i := 26) (i2 := 27) (i3 := 2) (i4 := 28) (argsL := [(.ref bs), (.int (7 : Int32)), (.int ((i3.toUInt32 >>> ((8 : Int32) &&& 31).toUInt32).toInt32)), (.int ((i4.toUInt32 >>> ((16 : Int32) &&& 31).toUInt32).toInt32))]) (S' := [(.int (7 : Int32)), (.ref a440)]) (Wd := 2) at_147 rfl rfl rfl rfl (by decide) rfl pd_13 rfl rfl (Nat.le_of_ble_eq_true rfl)) (rm_at l Z a0 hw hEL n0 bs cb 7 ((i3.toUInt32 >>> ((8 : Int32) &&& 31).toUInt32).toInt32) ((i4.toUInt32 >>> ((16 : Int32) &&& 31).toUInt32).toInt32) 7 _ (Sb.ext (keepExt K)) hB rfl (by decide) hcb) rfl rfl (by simp) (by decide) (by decide) (by decide) (by decide) rfl fun v_ h494 P495 sz496 => ?_
  obtain ⟨⟨d7, rfl, hd7⟩, e497⟩ := P495
  rw [e497]
  refine at' (ce' := 3) (sl' := 55) (pc' := 150) (L' := #[.val (.int i0), .val (.int i1), .val (.int i2), .val (.int i3), .val (.int i4), .val (.ref bs), .val (.int (Int32.ofNat (cb).length)), .val (.int ((i3.toUInt32 >>> ((8 : Int32) &&& 31).toUInt32).toInt32)), .val (.int ((i4.toUInt32 >>> ((16 : Int32) &&& 31).toUInt32).toInt32)), .val (.ref a440), .unset, .unset, .unset, .unset]) (S' := [(.int d7), (.int (7 : Int32)), (.ref a440)]) rfl rfl rfl rfl rfl ?_
  refine castore (pc' := 151) at_150 V443 ⟨by decide, by decide⟩ (by simp) (Nat.le_of_ble_eq_true rfl) rfl fun h498 W499 V500 => ?_
  replace K := K.wr W499 (Or.inr sz_a440)
  replace V443 : Arv Z h498 a440 kc444 .char (11 : Int32) [(.int (nar .char d0)), (.int (nar .char d1)), (.int (nar .char d2)), (.int (nar .char d3)), (.int (nar .char d4)), (.int (nar .char d5)), (.int (nar .char d6)), (.int (nar .char d7)), (.int (0 : Int32)), (.int (0 : Int32)), (.int (0 : Int32))] (.int (0 : Int32)) := V500
  refine aload (pc' := 153) at_151 rfl rfl rfl ?_
  refine bipush (pc' := 155) (v := (8 : Int32)) at_153 rfl rfl ?_
  refine aload (pc' := 157) at_155 rfl rfl rfl ?_
  refine bipush (pc' := 159) (v := (8 : Int32)) at_157 rfl rfl ?_
  refine iload (pc' := 161) at_159 rfl rfl ?_
  refine iload (pc' := 163) at_161 rfl rfl ?_
  refine call (i := 28) (i2 := 2) (Wd := 2) (pc' := 166) (kStatic (i := 26) (i2 := 27) (i3 := 2) (i4 := 28) (argsL := [(.ref bs), (.int (8 : Int32)), (.int ((i3.toUInt32 >>> ((8 : Int32) &&& 31).toUInt32).toInt32)), (.int ((i4.toUInt32 >>> ((16 : Int32) &&& 31).toUInt32).toInt32))]) (S' := [(.int (8 : Int32)), (.ref a440)]) (Wd := 2) at_163 rfl rfl rfl rfl (by decide) rfl pd_13 rfl rfl (Nat.le_of_ble_eq_true rfl)) (rm_at l Z a0 hw hEL n0 bs cb 8 ((i3.toUInt32 >>> ((8 : Int32) &&& 31).toUInt32).toInt32) ((i4.toUInt32 >>> ((16 : Int32) &&& 31).toUInt32).toInt32) 8 _ (Sb.ext (keepExt K)) hB rfl (by decide) hcb) rfl rfl (by simp) (by decide) (by decide) (by decide) (by decide) rfl fun v_ h501 P502 sz503 => ?_
  obtain ⟨⟨d8, rfl, hd8⟩, e504⟩ := P502
  rw [e504]
  refine at' (ce' := 3) (sl' := 55) (pc' := 166) (L' := #[.val (.int i0), .val (.int i1), .val (.int i2), .val (.int i3), .val (.int i4), .val (.ref bs), .val (.int (Int32.ofNat (cb).length)), .val (.int ((i3.toUInt32 >>> ((8 : Int32) &&& 31).toUInt32).toInt32)), .val (.int ((i4.toUInt32 >>> ((16 : Int32) &&& 31).toUInt32).toInt32)), .val (.ref a440), .unset, .unset, .unset, .unset]) (S' := [(.int d8), (.int (8 : Int32)), (.ref a440)]) rfl rfl rfl rfl rfl ?_
  refine castore (pc' := 167) at_166 V443 ⟨by decide, by decide⟩ (by simp) (Nat.le_of_ble_eq_true rfl) rfl fun h505 W506 V507 => ?_
  replace K := K.wr W506 (Or.inr sz_a440)
  replace V443 : Arv Z h505 a440 kc444 .char (11 : Int32) [(.int (nar .char d0)), (.int (nar .char d1)), (.int (nar .char d2)), (.int (nar .char d3)), (.int (nar .char d4)), (.int (nar .char d5)), (.int (nar .char d6)), (.int (nar .char d7)), (.int (nar .char d8)), (.int (0 : Int32)), (.int (0 : Int32))] (.int (0 : Int32)) := V507
  refine aload (pc' := 169) at_167 rfl rfl rfl ?_
  refine bipush (pc' := 171) (v := (9 : Int32)) at_169 rfl rfl ?_
  refine aload (pc' := 173) at_171 rfl rfl rfl ?_
  refine bipush (pc' := 175) (v := (9 : Int32)) at_173 rfl rfl ?_
  refine iload (pc' := 177) at_175 rfl rfl ?_
  refine iload (pc' := 179) at_177 rfl rfl ?_
  refine call (i := 28) (i2 := 2) (Wd := 2) (pc' := 182) (kStatic (i := 26) (i2 := 27) (i3 := 2) (i4 := 28) (argsL := [(.ref bs), (.int (9 : Int32)), (.int ((i3.toUInt32 >>> ((8 : Int32) &&& 31).toUInt32).toInt32)), (.int ((i4.toUInt32 >>> ((16 : Int32) &&& 31).toUInt32).toInt32))]) (S' := [(.int (9 : Int32)), (.ref a440)]) (Wd := 2) at_179 rfl rfl rfl rfl (by decide) rfl pd_13 rfl rfl (Nat.le_of_ble_eq_true rfl)) (rm_at l Z a0 hw hEL n0 bs cb 9 ((i3.toUInt32 >>> ((8 : Int32) &&& 31).toUInt32).toInt32) ((i4.toUInt32 >>> ((16 : Int32) &&& 31).toUInt32).toInt32) 9 _ (Sb.ext (keepExt K)) hB rfl (by decide) hcb) rfl rfl (by simp) (by decide) (by decide) (by decide) (by decide) rfl fun v_ h508 P509 sz510 => ?_
  obtain ⟨⟨d9, rfl, hd9⟩, e511⟩ := P509
  rw [e511]
  refine at' (ce' := 3) (sl' := 55) (pc' := 182) (L' := #[.val (.int i0), .val (.int i1), .val (.int i2), .val (.int i3), .val (.int i4), .val (.ref bs), .val (.int (Int32.ofNat (cb).length)), .val (.int ((i3.toUInt32 >>> ((8 : Int32) &&& 31).toUInt32).toInt32)), .val (.int ((i4.toUInt32 >>> ((16 : Int32) &&& 31).toUInt32).toInt32)), .val (.ref a440), .unset, .unset, .unset, .unset]) (S' := [(.int d9), (.int (9 : Int32)), (.ref a440)]) rfl rfl rfl rfl rfl ?_
  refine castore (pc' := 183) at_182 V443 ⟨by decide, by decide⟩ (by simp) (Nat.le_of_ble_eq_true rfl) rfl fun h512 W513 V514 => ?_
  replace K := K.wr W513 (Or.inr sz_a440)
  replace V443 : Arv Z h512 a440 kc444 .char (11 : Int32) [(.int (nar .char d0)), (.int (nar .char d1)), (.int (nar .char d2)), (.int (nar .char d3)), (.int (nar .char d4)), (.int (nar .char d5)), (.int (nar .char d6)), (.int (nar .char d7)), (.int (nar .char d8)), (.int (nar .char d9)), (.int (0 : Int32))] (.int (0 : Int32)) := V514
  refine aload (pc' := 185) at_183 rfl rfl rfl ?_
  refine bipush (pc' := 187) (v := (10 : Int32)) at_185 rfl rfl ?_
  refine aload (pc' := 189) at_187 rfl rfl rfl ?_
  refine bipush (pc' := 191) (v := (10 : Int32)) at_189 rfl rfl ?_
  refine iload (pc' := 193) at_191 rfl rfl ?_
  refine iload (pc' := 195) at_193 rfl rfl ?_
  refine call (i := 28) (i2 := 2) (Wd := 2) (pc' := 198) (kStatic (i := 26) (i2 := 27) (i3 := 2) (i4 := 28) (argsL := [(.ref bs), (.int (10 : Int32)), (.int ((i3.toUInt32 >>> ((8 : Int32) &&& 31).toUInt32).toInt32)), (.int ((i4.toUInt32 >>> ((16 : Int32) &&& 31).toUInt32).toInt32))]) (S' := [(.int (10 : Int32)), (.ref a440)]) (Wd := 2) at_195 rfl rfl rfl rfl (by decide) rfl pd_13 rfl rfl (Nat.le_of_ble_eq_true rfl)) (rm_at l Z a0 hw hEL n0 bs cb 10 ((i3.toUInt32 >>> ((8 : Int32) &&& 31).toUInt32).toInt32) ((i4.toUInt32 >>> ((16 : Int32) &&& 31).toUInt32).toInt32) 10 _ (Sb.ext (keepExt K)) hB rfl (by decide) hcb) rfl rfl (by simp) (by decide) (by decide) (by decide) (by decide) rfl fun v_ h515 P516 sz517 => ?_
  obtain ⟨⟨d10, rfl, hd10⟩, e518⟩ := P516
  rw [e518]
  refine at' (ce' := 3) (sl' := 55) (pc' := 198) (L' := #[.val (.int i0), .val (.int i1), .val (.int i2), .val (.int i3), .val (.int i4), .val (.ref bs), .val (.int (Int32.ofNat (cb).length)), .val (.int ((i3.toUInt32 >>> ((8 : Int32) &&& 31).toUInt32).toInt32)), .val (.int ((i4.toUInt32 >>> ((16 : Int32) &&& 31).toUInt32).toInt32)), .val (.ref a440), .unset, .unset, .unset, .unset]) (S' := [(.int d10), (.int (10 : Int32)), (.ref a440)]) rfl rfl rfl rfl rfl ?_
  refine castore (pc' := 199) at_198 V443 ⟨by decide, by decide⟩ (by simp) (Nat.le_of_ble_eq_true rfl) rfl fun h519 W520 V521 => ?_
  replace K := K.wr W520 (Or.inr sz_a440)
  replace V443 : Arv Z h519 a440 kc444 .char (11 : Int32) [(.int (nar .char d0)), (.int (nar .char d1)), (.int (nar .char d2)), (.int (nar .char d3)), (.int (nar .char d4)), (.int (nar .char d5)), (.int (nar .char d6)), (.int (nar .char d7)), (.int (nar .char d8)), (.int (nar .char d9)), (.int (nar .char d10))] (.int (0 : Int32)) := V521
  have Ab : Arv Z h519 a440 kc444 .char (11 : Int32) [(.int d0), (.int d1), (.int d2), (.int d3), (.int d4), (.int d5), (.int d6), (.int d7), (.int d8), (.int d9), (.int d10)] (.int (0 : Int32)) := by
    have q := V443
    rw [own_nar hd0, own_nar hd1, own_nar hd2, own_nar hd3, own_nar hd4, own_nar hd5, own_nar hd6, own_nar hd7, own_nar hd8, own_nar hd9, own_nar hd10] at q; exact q
  refine iloadN (pc' := 200) at_199 rfl rfl ?_
  refine iconst (pc' := 201) (v := (1 : Int32)) at_200 rfl rfl ?_
  refine iand (pc' := 202) at_201 rfl ?_
  refine ifc (pc' := 221) (pcF := 205) at_202 (by decide) rfl rfl (fun (qm : (i1 &&& (1 : Int32)) = (0 : Int32)) => ?_) (fun (qm : ¬ ((i1 &&& (1 : Int32)) = (0 : Int32))) => ?_)
  · skip
    exact fewer (fs' := []) (fun _ q => nomatch q) (more (ce' := 3) (sl' := 59) (by decide) (by decide) (J221 _ _ _ _ _ _ _ d0 d1 d2 d3 d4 d5 d6 d7 d8 d9 d10 (own_o12 _ hcb) hd0 hd1 hd2 hd3 hd4 hd5 hd6 hd7 hd8 hd9 hd10 Ab))
  · skip
    refine aload (pc' := 207) at_205 rfl rfl rfl ?_
    refine iloadN (pc' := 208) at_207 rfl rfl ?_
    refine ldcInt (i := 51) (v := (2147483647 : Int32)) (pc' := 210) at_208 rfl rfl ?_
    refine iand (pc' := 211) at_210 rfl ?_
    refine bipush (pc' := 213) (v := (11 : Int32)) at_211 rfl rfl ?_
    refine irem (pc' := 214) at_213 (by decide) rfl ?_
    have hr : t11 ((i2 &&& (2147483647 : Int32)) % (11 : Int32)) := own_11 (c_and _ _ (by decide)).1
    generalize ((i2 &&& (2147483647 : Int32)) % (11 : Int32)) = rr at hr ⊢
    unfold t11 at hr
    rcases hr with rfl | rfl | rfl | rfl | rfl | rfl | rfl | rfl | rfl | rfl | rfl
    · skip
      refine at' (ce' := 3) (sl' := 55) (pc' := 214) (L' := #[.val (.int i0), .val (.int i1), .val (.int i2), .val (.int i3), .val (.int i4), .val (.ref bs), .val (.int (Int32.ofNat (cb).length)), .val (.int ((i3.toUInt32 >>> ((8 : Int32) &&& 31).toUInt32).toInt32)), .val (.int ((i4.toUInt32 >>> ((16 : Int32) &&& 31).toUInt32).toInt32)), .val (.ref a440), .unset, .unset, .unset, .unset]) (S' := [(.int (0 : Int32)), (.ref a440)]) rfl rfl rfl rfl rfl ?_
      refine iloadN (pc' := 215) at_214 rfl rfl ?_
      refine sipush (pc' := 218) (v := (255 : Int32)) at_215 rfl rfl ?_
      refine iand (pc' := 219) at_218 rfl ?_
      refine i2c (pc' := 220) at_219 rfl ?_
      rw [own_i2c (own_ok _)]
      refine castore (pc' := 221) at_220 Ab ⟨by decide, by decide⟩ (by simp) (Nat.le_of_ble_eq_true rfl) rfl fun h522 W523 V524 => ?_
      replace K := K.wr W523 (Or.inr sz_a440)
      replace Ab : Arv Z h522 a440 kc444 .char (11 : Int32) [(.int (nar .char (i3 &&& (255 : Int32)))), (.int d1), (.int d2), (.int d3), (.int d4), (.int d5), (.int d6), (.int d7), (.int d8), (.int d9), (.int d10)] (.int (0 : Int32)) := V524
      have Ac : Arv Z h522 a440 kc444 .char (11 : Int32) [(.int (i3 &&& (255 : Int32))), (.int d1), (.int d2), (.int d3), (.int d4), (.int d5), (.int d6), (.int d7), (.int d8), (.int d9), (.int d10)] (.int (0 : Int32)) := by
        have q := Ab
        rw [own_nar (own_ok i3)] at q; exact q
      exact fewer (fs' := []) (fun _ q => nomatch q) (more (ce' := 3) (sl' := 59) (by decide) (by decide) (J221 _ _ _ _ _ _ _ (i3 &&& (255 : Int32)) d1 d2 d3 d4 d5 d6 d7 d8 d9 d10 (own_o12 _ hcb) (own_ok _) hd1 hd2 hd3 hd4 hd5 hd6 hd7 hd8 hd9 hd10 Ac))
    · skip
      refine at' (ce' := 3) (sl' := 55) (pc' := 214) (L' := #[.val (.int i0), .val (.int i1), .val (.int i2), .val (.int i3), .val (.int i4), .val (.ref bs), .val (.int (Int32.ofNat (cb).length)), .val (.int ((i3.toUInt32 >>> ((8 : Int32) &&& 31).toUInt32).toInt32)), .val (.int ((i4.toUInt32 >>> ((16 : Int32) &&& 31).toUInt32).toInt32)), .val (.ref a440), .unset, .unset, .unset, .unset]) (S' := [(.int (1 : Int32)), (.ref a440)]) rfl rfl rfl rfl rfl ?_
      refine iloadN (pc' := 215) at_214 rfl rfl ?_
      refine sipush (pc' := 218) (v := (255 : Int32)) at_215 rfl rfl ?_
      refine iand (pc' := 219) at_218 rfl ?_
      refine i2c (pc' := 220) at_219 rfl ?_
      rw [own_i2c (own_ok _)]
      refine castore (pc' := 221) at_220 Ab ⟨by decide, by decide⟩ (by simp) (Nat.le_of_ble_eq_true rfl) rfl fun h525 W526 V527 => ?_
      replace K := K.wr W526 (Or.inr sz_a440)
      replace Ab : Arv Z h525 a440 kc444 .char (11 : Int32) [(.int d0), (.int (nar .char (i3 &&& (255 : Int32)))), (.int d2), (.int d3), (.int d4), (.int d5), (.int d6), (.int d7), (.int d8), (.int d9), (.int d10)] (.int (0 : Int32)) := V527
      have Ac : Arv Z h525 a440 kc444 .char (11 : Int32) [(.int d0), (.int (i3 &&& (255 : Int32))), (.int d2), (.int d3), (.int d4), (.int d5), (.int d6), (.int d7), (.int d8), (.int d9), (.int d10)] (.int (0 : Int32)) := by
        have q := Ab
        rw [own_nar (own_ok i3)] at q; exact q
      exact fewer (fs' := []) (fun _ q => nomatch q) (more (ce' := 3) (sl' := 59) (by decide) (by decide) (J221 _ _ _ _ _ _ _ d0 (i3 &&& (255 : Int32)) d2 d3 d4 d5 d6 d7 d8 d9 d10 (own_o12 _ hcb) hd0 (own_ok _) hd2 hd3 hd4 hd5 hd6 hd7 hd8 hd9 hd10 Ac))
    · skip
      refine at' (ce' := 3) (sl' := 55) (pc' := 214) (L' := #[.val (.int i0), .val (.int i1), .val (.int i2), .val (.int i3), .val (.int i4), .val (.ref bs), .val (.int (Int32.ofNat (cb).length)), .val (.int ((i3.toUInt32 >>> ((8 : Int32) &&& 31).toUInt32).toInt32)), .val (.int ((i4.toUInt32 >>> ((16 : Int32) &&& 31).toUInt32).toInt32)), .val (.ref a440), .unset, .unset, .unset, .unset]) (S' := [(.int (2 : Int32)), (.ref a440)]) rfl rfl rfl rfl rfl ?_
      refine iloadN (pc' := 215) at_214 rfl rfl ?_
      refine sipush (pc' := 218) (v := (255 : Int32)) at_215 rfl rfl ?_
      refine iand (pc' := 219) at_218 rfl ?_
      refine i2c (pc' := 220) at_219 rfl ?_
      rw [own_i2c (own_ok _)]
      refine castore (pc' := 221) at_220 Ab ⟨by decide, by decide⟩ (by simp) (Nat.le_of_ble_eq_true rfl) rfl fun h528 W529 V530 => ?_
      replace K := K.wr W529 (Or.inr sz_a440)
      replace Ab : Arv Z h528 a440 kc444 .char (11 : Int32) [(.int d0), (.int d1), (.int (nar .char (i3 &&& (255 : Int32)))), (.int d3), (.int d4), (.int d5), (.int d6), (.int d7), (.int d8), (.int d9), (.int d10)] (.int (0 : Int32)) := V530
      have Ac : Arv Z h528 a440 kc444 .char (11 : Int32) [(.int d0), (.int d1), (.int (i3 &&& (255 : Int32))), (.int d3), (.int d4), (.int d5), (.int d6), (.int d7), (.int d8), (.int d9), (.int d10)] (.int (0 : Int32)) := by
        have q := Ab
        rw [own_nar (own_ok i3)] at q; exact q
      exact fewer (fs' := []) (fun _ q => nomatch q) (more (ce' := 3) (sl' := 59) (by decide) (by decide) (J221 _ _ _ _ _ _ _ d0 d1 (i3 &&& (255 : Int32)) d3 d4 d5 d6 d7 d8 d9 d10 (own_o12 _ hcb) hd0 hd1 (own_ok _) hd3 hd4 hd5 hd6 hd7 hd8 hd9 hd10 Ac))
    · skip
      refine at' (ce' := 3) (sl' := 55) (pc' := 214) (L' := #[.val (.int i0), .val (.int i1), .val (.int i2), .val (.int i3), .val (.int i4), .val (.ref bs), .val (.int (Int32.ofNat (cb).length)), .val (.int ((i3.toUInt32 >>> ((8 : Int32) &&& 31).toUInt32).toInt32)), .val (.int ((i4.toUInt32 >>> ((16 : Int32) &&& 31).toUInt32).toInt32)), .val (.ref a440), .unset, .unset, .unset, .unset]) (S' := [(.int (3 : Int32)), (.ref a440)]) rfl rfl rfl rfl rfl ?_
      refine iloadN (pc' := 215) at_214 rfl rfl ?_
      refine sipush (pc' := 218) (v := (255 : Int32)) at_215 rfl rfl ?_
      refine iand (pc' := 219) at_218 rfl ?_
      refine i2c (pc' := 220) at_219 rfl ?_
      rw [own_i2c (own_ok _)]
      refine castore (pc' := 221) at_220 Ab ⟨by decide, by decide⟩ (by simp) (Nat.le_of_ble_eq_true rfl) rfl fun h531 W532 V533 => ?_
      replace K := K.wr W532 (Or.inr sz_a440)
      replace Ab : Arv Z h531 a440 kc444 .char (11 : Int32) [(.int d0), (.int d1), (.int d2), (.int (nar .char (i3 &&& (255 : Int32)))), (.int d4), (.int d5), (.int d6), (.int d7), (.int d8), (.int d9), (.int d10)] (.int (0 : Int32)) := V533
      have Ac : Arv Z h531 a440 kc444 .char (11 : Int32) [(.int d0), (.int d1), (.int d2), (.int (i3 &&& (255 : Int32))), (.int d4), (.int d5), (.int d6), (.int d7), (.int d8), (.int d9), (.int d10)] (.int (0 : Int32)) := by
        have q := Ab
        rw [own_nar (own_ok i3)] at q; exact q
      exact fewer (fs' := []) (fun _ q => nomatch q) (more (ce' := 3) (sl' := 59) (by decide) (by decide) (J221 _ _ _ _ _ _ _ d0 d1 d2 (i3 &&& (255 : Int32)) d4 d5 d6 d7 d8 d9 d10 (own_o12 _ hcb) hd0 hd1 hd2 (own_ok _) hd4 hd5 hd6 hd7 hd8 hd9 hd10 Ac))
    · skip
      refine at' (ce' := 3) (sl' := 55) (pc' := 214) (L' := #[.val (.int i0), .val (.int i1), .val (.int i2), .val (.int i3), .val (.int i4), .val (.ref bs), .val (.int (Int32.ofNat (cb).length)), .val (.int ((i3.toUInt32 >>> ((8 : Int32) &&& 31).toUInt32).toInt32)), .val (.int ((i4.toUInt32 >>> ((16 : Int32) &&& 31).toUInt32).toInt32)), .val (.ref a440), .unset, .unset, .unset, .unset]) (S' := [(.int (4 : Int32)), (.ref a440)]) rfl rfl rfl rfl rfl ?_
      refine iloadN (pc' := 215) at_214 rfl rfl ?_
      refine sipush (pc' := 218) (v := (255 : Int32)) at_215 rfl rfl ?_
      refine iand (pc' := 219) at_218 rfl ?_
      refine i2c (pc' := 220) at_219 rfl ?_
      rw [own_i2c (own_ok _)]
      refine castore (pc' := 221) at_220 Ab ⟨by decide, by decide⟩ (by simp) (Nat.le_of_ble_eq_true rfl) rfl fun h534 W535 V536 => ?_
      replace K := K.wr W535 (Or.inr sz_a440)
      replace Ab : Arv Z h534 a440 kc444 .char (11 : Int32) [(.int d0), (.int d1), (.int d2), (.int d3), (.int (nar .char (i3 &&& (255 : Int32)))), (.int d5), (.int d6), (.int d7), (.int d8), (.int d9), (.int d10)] (.int (0 : Int32)) := V536
      have Ac : Arv Z h534 a440 kc444 .char (11 : Int32) [(.int d0), (.int d1), (.int d2), (.int d3), (.int (i3 &&& (255 : Int32))), (.int d5), (.int d6), (.int d7), (.int d8), (.int d9), (.int d10)] (.int (0 : Int32)) := by
        have q := Ab
        rw [own_nar (own_ok i3)] at q; exact q
      exact fewer (fs' := []) (fun _ q => nomatch q) (more (ce' := 3) (sl' := 59) (by decide) (by decide) (J221 _ _ _ _ _ _ _ d0 d1 d2 d3 (i3 &&& (255 : Int32)) d5 d6 d7 d8 d9 d10 (own_o12 _ hcb) hd0 hd1 hd2 hd3 (own_ok _) hd5 hd6 hd7 hd8 hd9 hd10 Ac))
    · skip
      refine at' (ce' := 3) (sl' := 55) (pc' := 214) (L' := #[.val (.int i0), .val (.int i1), .val (.int i2), .val (.int i3), .val (.int i4), .val (.ref bs), .val (.int (Int32.ofNat (cb).length)), .val (.int ((i3.toUInt32 >>> ((8 : Int32) &&& 31).toUInt32).toInt32)), .val (.int ((i4.toUInt32 >>> ((16 : Int32) &&& 31).toUInt32).toInt32)), .val (.ref a440), .unset, .unset, .unset, .unset]) (S' := [(.int (5 : Int32)), (.ref a440)]) rfl rfl rfl rfl rfl ?_
      refine iloadN (pc' := 215) at_214 rfl rfl ?_
      refine sipush (pc' := 218) (v := (255 : Int32)) at_215 rfl rfl ?_
      refine iand (pc' := 219) at_218 rfl ?_
      refine i2c (pc' := 220) at_219 rfl ?_
      rw [own_i2c (own_ok _)]
      refine castore (pc' := 221) at_220 Ab ⟨by decide, by decide⟩ (by simp) (Nat.le_of_ble_eq_true rfl) rfl fun h537 W538 V539 => ?_
      replace K := K.wr W538 (Or.inr sz_a440)
      replace Ab : Arv Z h537 a440 kc444 .char (11 : Int32) [(.int d0), (.int d1), (.int d2), (.int d3), (.int d4), (.int (nar .char (i3 &&& (255 : Int32)))), (.int d6), (.int d7), (.int d8), (.int d9), (.int d10)] (.int (0 : Int32)) := V539
      have Ac : Arv Z h537 a440 kc444 .char (11 : Int32) [(.int d0), (.int d1), (.int d2), (.int d3), (.int d4), (.int (i3 &&& (255 : Int32))), (.int d6), (.int d7), (.int d8), (.int d9), (.int d10)] (.int (0 : Int32)) := by
        have q := Ab
        rw [own_nar (own_ok i3)] at q; exact q
      exact fewer (fs' := []) (fun _ q => nomatch q) (more (ce' := 3) (sl' := 59) (by decide) (by decide) (J221 _ _ _ _ _ _ _ d0 d1 d2 d3 d4 (i3 &&& (255 : Int32)) d6 d7 d8 d9 d10 (own_o12 _ hcb) hd0 hd1 hd2 hd3 hd4 (own_ok _) hd6 hd7 hd8 hd9 hd10 Ac))
    · skip
      refine at' (ce' := 3) (sl' := 55) (pc' := 214) (L' := #[.val (.int i0), .val (.int i1), .val (.int i2), .val (.int i3), .val (.int i4), .val (.ref bs), .val (.int (Int32.ofNat (cb).length)), .val (.int ((i3.toUInt32 >>> ((8 : Int32) &&& 31).toUInt32).toInt32)), .val (.int ((i4.toUInt32 >>> ((16 : Int32) &&& 31).toUInt32).toInt32)), .val (.ref a440), .unset, .unset, .unset, .unset]) (S' := [(.int (6 : Int32)), (.ref a440)]) rfl rfl rfl rfl rfl ?_
      refine iloadN (pc' := 215) at_214 rfl rfl ?_
      refine sipush (pc' := 218) (v := (255 : Int32)) at_215 rfl rfl ?_
      refine iand (pc' := 219) at_218 rfl ?_
      refine i2c (pc' := 220) at_219 rfl ?_
      rw [own_i2c (own_ok _)]
      refine castore (pc' := 221) at_220 Ab ⟨by decide, by decide⟩ (by simp) (Nat.le_of_ble_eq_true rfl) rfl fun h540 W541 V542 => ?_
      replace K := K.wr W541 (Or.inr sz_a440)
      replace Ab : Arv Z h540 a440 kc444 .char (11 : Int32) [(.int d0), (.int d1), (.int d2), (.int d3), (.int d4), (.int d5), (.int (nar .char (i3 &&& (255 : Int32)))), (.int d7), (.int d8), (.int d9), (.int d10)] (.int (0 : Int32)) := V542
      have Ac : Arv Z h540 a440 kc444 .char (11 : Int32) [(.int d0), (.int d1), (.int d2), (.int d3), (.int d4), (.int d5), (.int (i3 &&& (255 : Int32))), (.int d7), (.int d8), (.int d9), (.int d10)] (.int (0 : Int32)) := by
        have q := Ab
        rw [own_nar (own_ok i3)] at q; exact q
      exact fewer (fs' := []) (fun _ q => nomatch q) (more (ce' := 3) (sl' := 59) (by decide) (by decide) (J221 _ _ _ _ _ _ _ d0 d1 d2 d3 d4 d5 (i3 &&& (255 : Int32)) d7 d8 d9 d10 (own_o12 _ hcb) hd0 hd1 hd2 hd3 hd4 hd5 (own_ok _) hd7 hd8 hd9 hd10 Ac))
    · skip
      refine at' (ce' := 3) (sl' := 55) (pc' := 214) (L' := #[.val (.int i0), .val (.int i1), .val (.int i2), .val (.int i3), .val (.int i4), .val (.ref bs), .val (.int (Int32.ofNat (cb).length)), .val (.int ((i3.toUInt32 >>> ((8 : Int32) &&& 31).toUInt32).toInt32)), .val (.int ((i4.toUInt32 >>> ((16 : Int32) &&& 31).toUInt32).toInt32)), .val (.ref a440), .unset, .unset, .unset, .unset]) (S' := [(.int (7 : Int32)), (.ref a440)]) rfl rfl rfl rfl rfl ?_
      refine iloadN (pc' := 215) at_214 rfl rfl ?_
      refine sipush (pc' := 218) (v := (255 : Int32)) at_215 rfl rfl ?_
      refine iand (pc' := 219) at_218 rfl ?_
      refine i2c (pc' := 220) at_219 rfl ?_
      rw [own_i2c (own_ok _)]
      refine castore (pc' := 221) at_220 Ab ⟨by decide, by decide⟩ (by simp) (Nat.le_of_ble_eq_true rfl) rfl fun h543 W544 V545 => ?_
      replace K := K.wr W544 (Or.inr sz_a440)
      replace Ab : Arv Z h543 a440 kc444 .char (11 : Int32) [(.int d0), (.int d1), (.int d2), (.int d3), (.int d4), (.int d5), (.int d6), (.int (nar .char (i3 &&& (255 : Int32)))), (.int d8), (.int d9), (.int d10)] (.int (0 : Int32)) := V545
      have Ac : Arv Z h543 a440 kc444 .char (11 : Int32) [(.int d0), (.int d1), (.int d2), (.int d3), (.int d4), (.int d5), (.int d6), (.int (i3 &&& (255 : Int32))), (.int d8), (.int d9), (.int d10)] (.int (0 : Int32)) := by
        have q := Ab
        rw [own_nar (own_ok i3)] at q; exact q
      exact fewer (fs' := []) (fun _ q => nomatch q) (more (ce' := 3) (sl' := 59) (by decide) (by decide) (J221 _ _ _ _ _ _ _ d0 d1 d2 d3 d4 d5 d6 (i3 &&& (255 : Int32)) d8 d9 d10 (own_o12 _ hcb) hd0 hd1 hd2 hd3 hd4 hd5 hd6 (own_ok _) hd8 hd9 hd10 Ac))
    · skip
      refine at' (ce' := 3) (sl' := 55) (pc' := 214) (L' := #[.val (.int i0), .val (.int i1), .val (.int i2), .val (.int i3), .val (.int i4), .val (.ref bs), .val (.int (Int32.ofNat (cb).length)), .val (.int ((i3.toUInt32 >>> ((8 : Int32) &&& 31).toUInt32).toInt32)), .val (.int ((i4.toUInt32 >>> ((16 : Int32) &&& 31).toUInt32).toInt32)), .val (.ref a440), .unset, .unset, .unset, .unset]) (S' := [(.int (8 : Int32)), (.ref a440)]) rfl rfl rfl rfl rfl ?_
      refine iloadN (pc' := 215) at_214 rfl rfl ?_
      refine sipush (pc' := 218) (v := (255 : Int32)) at_215 rfl rfl ?_
      refine iand (pc' := 219) at_218 rfl ?_
      refine i2c (pc' := 220) at_219 rfl ?_
      rw [own_i2c (own_ok _)]
      refine castore (pc' := 221) at_220 Ab ⟨by decide, by decide⟩ (by simp) (Nat.le_of_ble_eq_true rfl) rfl fun h546 W547 V548 => ?_
      replace K := K.wr W547 (Or.inr sz_a440)
      replace Ab : Arv Z h546 a440 kc444 .char (11 : Int32) [(.int d0), (.int d1), (.int d2), (.int d3), (.int d4), (.int d5), (.int d6), (.int d7), (.int (nar .char (i3 &&& (255 : Int32)))), (.int d9), (.int d10)] (.int (0 : Int32)) := V548
      have Ac : Arv Z h546 a440 kc444 .char (11 : Int32) [(.int d0), (.int d1), (.int d2), (.int d3), (.int d4), (.int d5), (.int d6), (.int d7), (.int (i3 &&& (255 : Int32))), (.int d9), (.int d10)] (.int (0 : Int32)) := by
        have q := Ab
        rw [own_nar (own_ok i3)] at q; exact q
      exact fewer (fs' := []) (fun _ q => nomatch q) (more (ce' := 3) (sl' := 59) (by decide) (by decide) (J221 _ _ _ _ _ _ _ d0 d1 d2 d3 d4 d5 d6 d7 (i3 &&& (255 : Int32)) d9 d10 (own_o12 _ hcb) hd0 hd1 hd2 hd3 hd4 hd5 hd6 hd7 (own_ok _) hd9 hd10 Ac))
    · skip
      refine at' (ce' := 3) (sl' := 55) (pc' := 214) (L' := #[.val (.int i0), .val (.int i1), .val (.int i2), .val (.int i3), .val (.int i4), .val (.ref bs), .val (.int (Int32.ofNat (cb).length)), .val (.int ((i3.toUInt32 >>> ((8 : Int32) &&& 31).toUInt32).toInt32)), .val (.int ((i4.toUInt32 >>> ((16 : Int32) &&& 31).toUInt32).toInt32)), .val (.ref a440), .unset, .unset, .unset, .unset]) (S' := [(.int (9 : Int32)), (.ref a440)]) rfl rfl rfl rfl rfl ?_
      refine iloadN (pc' := 215) at_214 rfl rfl ?_
      refine sipush (pc' := 218) (v := (255 : Int32)) at_215 rfl rfl ?_
      refine iand (pc' := 219) at_218 rfl ?_
      refine i2c (pc' := 220) at_219 rfl ?_
      rw [own_i2c (own_ok _)]
      refine castore (pc' := 221) at_220 Ab ⟨by decide, by decide⟩ (by simp) (Nat.le_of_ble_eq_true rfl) rfl fun h549 W550 V551 => ?_
      replace K := K.wr W550 (Or.inr sz_a440)
      replace Ab : Arv Z h549 a440 kc444 .char (11 : Int32) [(.int d0), (.int d1), (.int d2), (.int d3), (.int d4), (.int d5), (.int d6), (.int d7), (.int d8), (.int (nar .char (i3 &&& (255 : Int32)))), (.int d10)] (.int (0 : Int32)) := V551
      have Ac : Arv Z h549 a440 kc444 .char (11 : Int32) [(.int d0), (.int d1), (.int d2), (.int d3), (.int d4), (.int d5), (.int d6), (.int d7), (.int d8), (.int (i3 &&& (255 : Int32))), (.int d10)] (.int (0 : Int32)) := by
        have q := Ab
        rw [own_nar (own_ok i3)] at q; exact q
      exact fewer (fs' := []) (fun _ q => nomatch q) (more (ce' := 3) (sl' := 59) (by decide) (by decide) (J221 _ _ _ _ _ _ _ d0 d1 d2 d3 d4 d5 d6 d7 d8 (i3 &&& (255 : Int32)) d10 (own_o12 _ hcb) hd0 hd1 hd2 hd3 hd4 hd5 hd6 hd7 hd8 (own_ok _) hd10 Ac))
    · skip
      refine at' (ce' := 3) (sl' := 55) (pc' := 214) (L' := #[.val (.int i0), .val (.int i1), .val (.int i2), .val (.int i3), .val (.int i4), .val (.ref bs), .val (.int (Int32.ofNat (cb).length)), .val (.int ((i3.toUInt32 >>> ((8 : Int32) &&& 31).toUInt32).toInt32)), .val (.int ((i4.toUInt32 >>> ((16 : Int32) &&& 31).toUInt32).toInt32)), .val (.ref a440), .unset, .unset, .unset, .unset]) (S' := [(.int (10 : Int32)), (.ref a440)]) rfl rfl rfl rfl rfl ?_
      refine iloadN (pc' := 215) at_214 rfl rfl ?_
      refine sipush (pc' := 218) (v := (255 : Int32)) at_215 rfl rfl ?_
      refine iand (pc' := 219) at_218 rfl ?_
      refine i2c (pc' := 220) at_219 rfl ?_
      rw [own_i2c (own_ok _)]
      refine castore (pc' := 221) at_220 Ab ⟨by decide, by decide⟩ (by simp) (Nat.le_of_ble_eq_true rfl) rfl fun h552 W553 V554 => ?_
      replace K := K.wr W553 (Or.inr sz_a440)
      replace Ab : Arv Z h552 a440 kc444 .char (11 : Int32) [(.int d0), (.int d1), (.int d2), (.int d3), (.int d4), (.int d5), (.int d6), (.int d7), (.int d8), (.int d9), (.int (nar .char (i3 &&& (255 : Int32))))] (.int (0 : Int32)) := V554
      have Ac : Arv Z h552 a440 kc444 .char (11 : Int32) [(.int d0), (.int d1), (.int d2), (.int d3), (.int d4), (.int d5), (.int d6), (.int d7), (.int d8), (.int d9), (.int (i3 &&& (255 : Int32)))] (.int (0 : Int32)) := by
        have q := Ab
        rw [own_nar (own_ok i3)] at q; exact q
      exact fewer (fs' := []) (fun _ q => nomatch q) (more (ce' := 3) (sl' := 59) (by decide) (by decide) (J221 _ _ _ _ _ _ _ d0 d1 d2 d3 d4 d5 d6 d7 d8 d9 (i3 &&& (255 : Int32)) (own_o12 _ hcb) hd0 hd1 hd2 hd3 hd4 hd5 hd6 hd7 hd8 hd9 (own_ok _) Ac))
set_option maxRecDepth 65536 in
set_option maxHeartbeats 40000000 in
theorem comes_1 {Post : Tables → Env → Array Value → State → Outcome → State → Prop} (hpost : ∀ tb e args s v u, (limb_1_1.after args s (.returned v) u = true ∧ limb_1_2.after args s (.returned v) u = true ∧ True) → ReturnedEndW s (.returned v) u (Jvm.fieldLocs frame_1_writes args s ++ Jvm.arrayLocs frame_1_arrays args s ++ Jvm.staticLocs frame_1_statics s) 32 6336 → Post tb e args s (.returned v) u) :
    ArmFor flags0 classFile x code maxLocals ret World_1 tables_1 room_1 Calls_1 rest_1 Pre_1 Post := by
  intro l hfl _ _ p e ha hc hk s m args below hf hA hF happ hP
  obtain ⟨hcalls, hrest, hpre⟩ := hP
  obtain ⟨-, -, -, hnamed, -, -, -, hat⟩ := (Spec.applies_iff hf).mp happ
  obtain ⟨hg, hn⟩ := and_e (Cond.before_iff.mp (show (Jvm.Cond.and given_1 narrow_1).before args s = true from hpre))
  obtain ⟨hcount, hg0⟩ := and_e hg
  obtain ⟨ga0, hg1⟩ := and_e hg0
  obtain ⟨ga1, hg2⟩ := and_e hg1
  obtain ⟨ga2, hg3⟩ := and_e hg2
  obtain ⟨ga3, hg4⟩ := and_e hg3
  have ga4 := hg4
  obtain ⟨w0, w1, w2, w3, w4, rfl⟩ : ∃ w0 w1 w2 w3 w4 : Value, args = #[w0, w1, w2, w3, w4] := by
    have hs : args.size = 5 := by simpa [Cond.value, given_1] using hcount
    obtain ⟨L⟩ := args
    match L, hs with
    | [w0, w1, w2, w3, w4], _ => exact ⟨w0, w1, w2, w3, w4, rfl⟩
  have hw := fun d (hd : d ∈ tables_1) => atoms_spec (ws := Jvm.Cond.code x code maxLocals ret :: tables_1) hat d (List.mem_cons_of_mem _ hd)
  have hfit : Fit s := fun {y c} hc i hi => by
    obtain ⟨ha, rfl⟩ := Array.getElem?_eq_some_iff.mp hc
    have q := List.all_eq_true.mp ((Array.all_eq_true_iff_forall_mem.mp hF) _ (Array.getElem_mem ha)) i (List.mem_range.mpr hi)
    simpa [Array.getElem?_eq_getElem hi] using q
  obtain ⟨hsets, hown0⟩ := atoms_of _ (rest_1_c_eq ▸ (show rest_1_c.before _ s = true from hrest))
  obtain ⟨i0, ei0⟩ := is_v ga0
  obtain rfl : w0 = (.int i0) := Option.some.inj ei0
  obtain ⟨i1, ei1⟩ := is_v ga1
  obtain rfl : w1 = (.int i1) := Option.some.inj ei1
  obtain ⟨i2, ei2⟩ := is_v ga2
  obtain rfl : w2 = (.int i2) := Option.some.inj ei2
  obtain ⟨i3, ei3⟩ := is_v ga3
  obtain rfl : w3 = (.int i3) := Option.some.inj ei3
  obtain ⟨i4, ei4⟩ := is_v ga4
  obtain rfl : w4 = (.int i4) := Option.some.inj ei4
  obtain ⟨zc, ezc⟩ := is_v (Cond.before_iff.mp (hsets _ (List.mem_of_getElem? (i := 1) rfl)))
  have nzc := not_v (Cond.before_iff.mp (hsets _ (List.mem_of_getElem? (i := 2) rfl)))
  have Szc : Sta s s.heap "java/lang/String" "COMPACT_STRINGS" "Z" (.int zc) := Sta.start ezc (Or.inl (hsets _ (List.mem_of_getElem? (i := 0) rfl)))
  obtain ⟨fm, efm, rfm⟩ := isR_v (Cond.before_iff.mp (hsets _ (List.mem_of_getElem? (i := 8) rfl)))
  have Sfm : Sta s s.heap "jdk/internal/util/Preconditions" "SIOOBE_FORMATTER" "Ljava/util/function/BiFunction;" fm := Sta.start efm (Or.inl (hsets _ (List.mem_of_getElem? (i := 7) rfl)))
  have hzc : ¬ (zc = (0 : Int32)) := gotF (Cond.eq_ints ezc (Term.int_eval (0))) nzc
  have hB : Sets s := ⟨zc, fm, Szc, hzc, Sfm, rfm⟩
  obtain ⟨oe, eoe⟩ := exa_v (Cond.before_iff.mp (hsets _ (List.mem_of_getElem? (i := 11) rfl)))
  have hOe : Oe s oe := ⟨Sta.start eoe (Or.inl (hsets _ (List.mem_of_getElem? (i := 10) rfl))), Exa.start eoe (Cond.before_iff.mp (hsets _ (List.mem_of_getElem? (i := 11) rfl))), fld_start eoe (eqNull (Cond.before_iff.mp (hsets _ (List.mem_of_getElem? (i := 12) rfl))))⟩
  obtain ⟨k0, hn1⟩ := and_e hn
  obtain ⟨k1, hn2⟩ := and_e hn1
  obtain ⟨k2, hn3⟩ := and_e hn2
  obtain ⟨k3, hn4⟩ := and_e hn3
  obtain ⟨k4, hn5⟩ := and_e hn4
  obtain ⟨k5, hn6⟩ := and_e hn5
  obtain ⟨k6, hn7⟩ := and_e hn6
  obtain ⟨k7, hn8⟩ := and_e hn7
  obtain ⟨k8, hn9⟩ := and_e hn8
  obtain ⟨k9, hn10⟩ := and_e hn9
  obtain ⟨k10, hn11⟩ := and_e hn10
  obtain ⟨k11, hn12⟩ := and_e hn11
  obtain ⟨k12, hn13⟩ := and_e hn12
  obtain ⟨k13, hn14⟩ := and_e hn13
  obtain ⟨k14, hn15⟩ := and_e hn14
  obtain ⟨k15, hn16⟩ := and_e hn15
  obtain ⟨k16, hn17⟩ := and_e hn16
  obtain ⟨k17, hn18⟩ := and_e hn17
  obtain ⟨k18, hn19⟩ := and_e hn18
  obtain ⟨k19, hn20⟩ := and_e hn19
  obtain ⟨k20, hn21⟩ := and_e hn20
  obtain ⟨k21, hn22⟩ := and_e hn21
  obtain ⟨k22, hn23⟩ := and_e hn22
  obtain ⟨k23, hn24⟩ := and_e hn23
  obtain ⟨k24, hn25⟩ := and_e hn24
  obtain ⟨k25, hn26⟩ := and_e hn25
  obtain ⟨k26, hn27⟩ := and_e hn26
  obtain ⟨k27, hn28⟩ := and_e hn27
  obtain ⟨k28, hn29⟩ := and_e hn28
  obtain ⟨k29, hn30⟩ := and_e hn29
  obtain ⟨k30, hn31⟩ := and_e hn30
  obtain ⟨k31, hn32⟩ := and_e hn31
  obtain ⟨k32, hn33⟩ := and_e hn32
  obtain ⟨k33, hn34⟩ := and_e hn33
  obtain ⟨k34, hn35⟩ := and_e hn34
  obtain ⟨k35, hn36⟩ := and_e hn35
  obtain ⟨k36, hn37⟩ := and_e hn36
  obtain ⟨k37, hn38⟩ := and_e hn37
  obtain ⟨k38, hn39⟩ := and_e hn38
  obtain ⟨k39, hn40⟩ := and_e hn39
  obtain ⟨k40, hn41⟩ := and_e hn40
  obtain ⟨k41, hn42⟩ := and_e hn41
  obtain ⟨k42, hn43⟩ := and_e hn42
  obtain ⟨k43, hn44⟩ := and_e hn43
  obtain ⟨k44, hn45⟩ := and_e hn44
  obtain ⟨k45, hn46⟩ := and_e hn45
  obtain ⟨k46, hn47⟩ := and_e hn46
  obtain ⟨k47, hn48⟩ := and_e hn47
  obtain ⟨k48, hn49⟩ := and_e hn48
  obtain ⟨k49, hn50⟩ := and_e hn49
  obtain ⟨k50, hn51⟩ := and_e hn50
  obtain ⟨k51, hn52⟩ := and_e hn51
  obtain ⟨k52, hn53⟩ := and_e hn52
  have k53 := hn53
  obtain ⟨c0, ec0⟩ := exa_v k3
  have S0 := Sta.start ec0 (Or.inr ⟨hw _ (List.mem_of_getElem? (i := 78) rfl), hw _ (List.mem_of_getElem? (i := 97) rfl)⟩)
  have X0 := Exa.start ec0 k3
  obtain ⟨m0, em0⟩ := exa_v k11
  have T0 : Str s s.heap m0 ([114, 111, 117, 110, 100, 114, 111, 98, 105, 110] : List Int32) := str_of hfit em0 k11 k12 k13 k14 rfl (by decide) (by decide) (fun i hi => by
    match i, hi with
    | 0, _ => exact eqI k30
    | 1, _ => exact eqI k31
    | 2, _ => exact eqI k32
    | 3, _ => exact eqI k33
    | 4, _ => exact eqI k34
    | 5, _ => exact eqI k35
    | 6, _ => exact eqI k36
    | 7, _ => exact eqI k37
    | 8, _ => exact eqI k38
    | 9, _ => exact eqI k39)
  obtain ⟨c1, ec1⟩ := exa_v k5
  have S1 := Sta.start ec1 (Or.inr ⟨hw _ (List.mem_of_getElem? (i := 78) rfl), hw _ (List.mem_of_getElem? (i := 98) rfl)⟩)
  have X1 := Exa.start ec1 k5
  obtain ⟨m1, em1⟩ := exa_v k15
  have T1 : Str s s.heap m1 ([114, 115, 118] : List Int32) := str_of hfit em1 k15 k16 k17 k18 rfl (by decide) (by decide) (fun i hi => by
    match i, hi with
    | 0, _ => exact eqI k27
    | 1, _ => exact eqI k28
    | 2, _ => exact eqI k29)
  obtain ⟨c2, ec2⟩ := exa_v k7
  have S2 := Sta.start ec2 (Or.inr ⟨hw _ (List.mem_of_getElem? (i := 78) rfl), hw _ (List.mem_of_getElem? (i := 99) rfl)⟩)
  have X2 := Exa.start ec2 k7
  obtain ⟨m2, em2⟩ := exa_v k19
  have T2 : Str s s.heap m2 ([99, 111, 109, 98, 115, 117, 109] : List Int32) := str_of hfit em2 k19 k20 k21 k22 rfl (by decide) (by decide) (fun i hi => by
    match i, hi with
    | 0, _ => exact eqI k40
    | 1, _ => exact eqI k41
    | 2, _ => exact eqI k42
    | 3, _ => exact eqI k43
    | 4, _ => exact eqI k44
    | 5, _ => exact eqI k45
    | 6, _ => exact eqI k46)
  obtain ⟨c3, ec3⟩ := exa_v k9
  have S3 := Sta.start ec3 (Or.inr ⟨hw _ (List.mem_of_getElem? (i := 78) rfl), hw _ (List.mem_of_getElem? (i := 100) rfl)⟩)
  have X3 := Exa.start ec3 k9
  obtain ⟨m3, em3⟩ := exa_v k23
  have T3 : Str s s.heap m3 ([99, 111, 109, 98, 109, 110, 122] : List Int32) := str_of hfit em3 k23 k24 k25 k26 rfl (by decide) (by decide) (fun i hi => by
    match i, hi with
    | 0, _ => exact eqI k47
    | 1, _ => exact eqI k48
    | 2, _ => exact eqI k49
    | 3, _ => exact eqI k50
    | 4, _ => exact eqI k51
    | 5, _ => exact eqI k52
    | 6, _ => exact eqI k53)
  obtain ⟨va, eva⟩ := exa_v k1
  have SV := Sta.start eva (Or.inr ⟨hw _ (List.mem_of_getElem? (i := 78) rfl), hw _ (List.mem_of_getElem? (i := 89) rfl)⟩)
  obtain ⟨kv, AV⟩ := arr_of (vs := [Value.ref c0, Value.ref c1, Value.ref c2, Value.ref c3]) (dv := .null) hfit eva k0 k2 (by decide) rfl (fun i hi => by
    match i, hi with
    | 0, _ => exact eqA ec0 k4
    | 1, _ => exact eqA ec1 k6
    | 2, _ => exact eqA ec2 k8
    | 3, _ => exact eqA ec3 k10) (Nat.le_of_ble_eq_true rfl)
  have hEn : En s va kv c0 c1 c2 c3 m0 m1 m2 m3 := ⟨SV, AV, Exa.start eva k1, ⟨S0, X0, fld_start ec0 em0, T0⟩, ⟨S1, X1, fld_start ec1 em1, T1⟩, ⟨S2, X2, fld_start ec2 em2, T2⟩, ⟨S3, X3, fld_start ec3 em3, T3⟩⟩
  have hEL : EW s _ consts_1 := (EW.cons (hw _ (List.mem_of_getElem? (i := 4) rfl)) (by decide) (EW.cons (hw _ (List.mem_of_getElem? (i := 123) rfl)) (by decide) (EW.cons (hw _ (List.mem_of_getElem? (i := 124) rfl)) (by decide) (EW.cons (hw _ (List.mem_of_getElem? (i := 125) rfl)) (by decide) (EW.cons (hw _ (List.mem_of_getElem? (i := 144) rfl)) (by simp) (EW.cons (hw _ (List.mem_of_getElem? (i := 146) rfl)) (by simp) EW.nil))))))
  have hCHv : CHv s consts_1 s.vm s.heap := CHv.start hEL (fun p hp => hcalls.1 p hp) (hsets _ (List.mem_of_getElem? (i := 2) rfl)) (hw _ (List.mem_of_getElem? (i := 7) rfl)) (hw _ (List.mem_of_getElem? (i := 6) rfl))
  obtain ⟨n, o, h1, h2, h3, v, L, rfl, ⟨rfl, N, -⟩, hCH, hE, hWm⟩ := law_met l s _ hw hEL s.heap.size va kv c0 c1 c2 c3 m0 m1 m2 m3 oe i0 i1 i2 i3 i4 s.heap hEn hOe hB p e ha hc hk s m _ below hf ((Spec.applies_iff_loose hf).mp happ).1 ⟨rfl, State.Warmed39.refl s, rfl, hCHv, Old.start s, fun x q => nomatch q⟩ trivial
  refine ⟨n, _, h1, h2, h3, hpost _ _ _ _ _ _ ⟨Cond.after_iff.mpr rfl, Cond.after_iff.mpr (eq_i res_at (Term.int_eval (1)) rfl), trivial⟩ ⟨hE.1, hE.2.1, hE.2.2.1, (hE.2.2.2.sift fun y hy => Or.inr (N y hy)).mono (by decide) (by decide)⟩⟩
theorem main_1_1 : Claimed_1_1 := comes_1 fun _ _ _ _ _ _ h hF => ⟨h.1, hF⟩
theorem main_1_2 : Claimed_1_2 := comes_1 fun _ _ _ _ _ _ h hF => ⟨h.2.1, hF⟩
end Jvm.Pilot.@@N@@
namespace Jvm.Pilot.@@N@@
open Jvm Jvm.ClassFile Sem Op Lib Jvm.Free Jvm.Stand Jvm.Pilot.@@N@@.Jvm.D
/-! MADE BY PROGRAM (witnessworld.py) out of the Statement's table words and the real class files: 24 classes; the members and pool entries that the words name. The judged class is class 1, her method 1. -/
namespace start1
open Jvm.ClassFile
def u (s : String) : CpInfo := .utf8 (stringToUtf16 s)
/-- a pool by its gaps: so many unusable entries, then the entry; so many at the end -/
def gap : Nat → List CpInfo → List CpInfo
  | 0, r => r
  | n + 1, r => .unusable :: gap n r
def poolList (es : List (Nat × CpInfo)) (last : Nat) : List CpInfo := es.foldr (fun e r => gap e.1 (e.2 :: r)) (gap last [])
def pool (es : List (Nat × CpInfo)) (last : Nat) : Array CpInfo := ⟨poolList es last⟩
def fileOf (pool : Array CpInfo) (this : Nat) (attrs : Array Attribute := #[]) (ms : Array MethodInfo := #[]) (fl : Nat := 33) (sup : Nat := 0) (ifs : Array Nat := #[]) (fds : Array FieldInfo := #[]) : ClassFile where
  minorVersion := 0
  majorVersion := 65
  constantPool := pool
  accessFlags := fl
  thisClass := this
  superClass := sup
  interfaces := ifs
  fields := fds
  methods := ms
  attributes := attrs
def plain (name : String) (sup : Option ClassId) : Class where
  name := name
  kind := .ordinary
  loader := none
  accessFlags := 33
  super := sup
  interfaces := #[]
  cf := none
  fields := #[]
  methods := #[]
  instanceTypes := #[]
  staticTypes := #[]
  resolved := #[]
  callSites := []
  init := .initialized
  statics := none
  mirror := none

def pool0 : Array CpInfo := pool [(5, u "<init>"), (0, u "()V"), (1, .class_ 10), (1, u "java/lang/Object"), (85, u "clone"), (0, u "()Ljava/lang/Object;")] 26

def k0c0 : Code := { maxStack := 0, maxLocals := 1, code := object_method_1_code, exceptionTable := #[], attributes := #[] }
def k0m0 : Method := { name := "<init>", desc := "()V", sig := { parameters := [], returnType := none }, accessFlags := 1, code := some k0c0 }
def k0m1 : Method := { name := "clone", desc := "()Ljava/lang/Object;", sig := { parameters := [], returnType := some (.object "java/lang/Object") }, accessFlags := 260, code := none }
/-- java/lang/Object -/
def k0 : Class := { plain "java/lang/Object" none with
  accessFlags := 33
  interfaces := #[]
  cf := some (fileOf pool0 8 #[] #[{ accessFlags := 1, nameIndex := 5, descriptorIndex := 6, attributes := #[] }, { accessFlags := 260, nameIndex := 96, descriptorIndex := 97, attributes := #[] }] 33 0 #[] #[])
  fields := #[]
  methods := #[k0m0, k0m1]
  instanceTypes := #[]
  staticTypes := #[]
  resolved := Array.replicate 124 none
  statics := none }

def pool1 : Array CpInfo := pool [(2, .class_ 4), (1, u "java/lang/Object"), (0, u "<init>"), (0, u "()V"), (0, .methodref 8 9), (0, .class_ 10), (0, .nameAndType 11 12), (0, u "com/example/contesta/contesta/fusion/MethodNamedPinLaw"), (0, u "base"), (0, u "(I)Ljava/lang/String;"), (0, .methodref 14 15), (0, .class_ 16), (0, .nameAndType 17 18), (0, u "java/lang/String"), (0, u "length"), (0, u "()I"), (0, .methodref 8 20), (0, .nameAndType 21 22), (0, u "at"), (0, u "(Ljava/lang/String;III)C"), (0, .integer 2147483647), (0, .methodref 8 25), (0, .nameAndType 26 27), (0, u "cut"), (0, u "([CI)[C"), (0, .methodref 14 29), (0, .nameAndType 5 30), (0, u "([C)V"), (0, .methodref 32 33), (0, .class_ 34), (0, .nameAndType 35 36), (0, u "com/example/contesta/contesta/fusion/Method"), (0, u "named"), (0, u "(Ljava/lang/String;)Ljava/util/Optional;"), (0, .methodref 38 39), (0, .class_ 40), (0, .nameAndType 41 42), (0, u "java/util/Optional"), (0, u "orElse"), (0, u "(Ljava/lang/Object;)Ljava/lang/Object;"), (0, .string 44), (0, u "roundrobin"), (0, .methodref 14 46), (0, .nameAndType 47 48), (0, u "equals"), (0, u "(Ljava/lang/Object;)Z"), (0, .fieldref 32 50), (0, .nameAndType 51 52), (0, u "ROUND_ROBIN"), (0, u "Lcom/example/contesta/contesta/fusion/Method;"), (0, .string 54), (0, u "rsv"), (0, .fieldref 32 56), (0, .nameAndType 57 52), (0, u "RSV"), (0, .string 59), (0, u "combsum"), (0, .fieldref 32 61), (0, .nameAndType 62 52), (0, u "COMB_SUM"), (0, .string 64), (0, u "combmnz"), (0, .fieldref 32 66), (0, .nameAndType 67 52), (0, u "COMB_MNZ"), (0, .string 69), (0, u ""), (0, .methodref 14 71), (0, .nameAndType 72 73), (0, u "charAt"), (0, u "(I)C"), (2, u "law"), (0, u "(IIIII)Z")] 5

def k1m0 : Method := { name := "<init>", desc := "()V", sig := { parameters := [], returnType := none }, accessFlags := 2, code := none }
def k1c1 : Code := { maxStack := 6, maxLocals := 14, code := code, exceptionTable := #[], attributes := #[] }
def k1m1 : Method := { name := "law", desc := "(IIIII)Z", sig := { parameters := [.int, .int, .int, .int, .int], returnType := some .boolean }, accessFlags := 9, code := some k1c1 }
def k1c2 : Code := { maxStack := 2, maxLocals := 1, code := method_3_code, exceptionTable := #[], attributes := #[] }
def k1m2 : Method := { name := "base", desc := "(I)Ljava/lang/String;", sig := { parameters := [.int], returnType := some (.object "java/lang/String") }, accessFlags := 10, code := some k1c2 }
def k1c3 : Code := { maxStack := 3, maxLocals := 4, code := method_4_code, exceptionTable := #[], attributes := #[] }
def k1m3 : Method := { name := "at", desc := "(Ljava/lang/String;III)C", sig := { parameters := [(.object "java/lang/String"), .int, .int, .int], returnType := some .char }, accessFlags := 10, code := some k1c3 }
def k1c4 : Code := { maxStack := 5, maxLocals := 2, code := method_5_code, exceptionTable := #[], attributes := #[] }
def k1m4 : Method := { name := "cut", desc := "([CI)[C", sig := { parameters := [(.array .char), .int], returnType := some (.array .char) }, accessFlags := 10, code := some k1c4 }
/-- com/example/contesta/contesta/fusion/MethodNamedPinLaw -/
def k1 : Class := { plain "com/example/contesta/contesta/fusion/MethodNamedPinLaw" (some 0) with
  accessFlags := 49
  interfaces := #[]
  cf := some (fileOf pool1 8 #[] #[{ accessFlags := 2, nameIndex := 5, descriptorIndex := 6, attributes := #[] }, { accessFlags := 9, nameIndex := 76, descriptorIndex := 77, attributes := #[] }, { accessFlags := 10, nameIndex := 11, descriptorIndex := 12, attributes := #[] }, { accessFlags := 10, nameIndex := 21, descriptorIndex := 22, attributes := #[] }, { accessFlags := 10, nameIndex := 26, descriptorIndex := 27, attributes := #[] }] 49 2 #[] #[])
  fields := #[]
  methods := #[k1m0, k1m1, k1m2, k1m3, k1m4]
  instanceTypes := #[]
  staticTypes := #[]
  resolved := Array.replicate 83 none
  statics := none }

def pool2 : Array CpInfo := pool [(1, .class_ 2), (0, u "java/io/Serializable"), (0, .class_ 4), (0, u "java/lang/Object")] 2

/-- java/io/Serializable -/
def k2 : Class := { plain "java/io/Serializable" (some 0) with
  accessFlags := 1537
  interfaces := #[]
  cf := some (fileOf pool2 1 #[] #[] 1537 3 #[] #[])
  fields := #[]
  methods := #[]
  instanceTypes := #[]
  staticTypes := #[]
  resolved := Array.replicate 7 none
  statics := none }

def pool3 : Array CpInfo := pool [(1, .class_ 2), (0, u "java/lang/Comparable"), (0, .class_ 4), (0, u "java/lang/Object")] 7

/-- java/lang/Comparable -/
def k3 : Class := { plain "java/lang/Comparable" (some 0) with
  accessFlags := 1537
  interfaces := #[]
  cf := some (fileOf pool3 1 #[] #[] 1537 3 #[] #[])
  fields := #[]
  methods := #[]
  instanceTypes := #[]
  staticTypes := #[]
  resolved := Array.replicate 12 none
  statics := none }

def pool4 : Array CpInfo := pool [(2, .class_ 4), (1, u "java/lang/CharSequence"), (42, .class_ 48), (0, u "java/lang/CharSequence$1CodePointIterator"), (10, .class_ 60), (0, u "java/lang/CharSequence$1CharIterator"), (5, .class_ 67), (0, u "java/lang/Object")] 63

/-- java/lang/CharSequence -/
def k4 : Class := { plain "java/lang/CharSequence" (some 0) with
  accessFlags := 1537
  interfaces := #[]
  cf := some (fileOf pool4 2 #[.nestMembers #[47, 59]] #[] 1537 66 #[] #[])
  fields := #[]
  methods := #[]
  instanceTypes := #[]
  staticTypes := #[]
  resolved := Array.replicate 131 none
  statics := none }

def pool5 : Array CpInfo := pool [(1, .class_ 2), (0, u "java/lang/constant/Constable"), (0, .class_ 4), (0, u "java/lang/Object")] 6

/-- java/lang/constant/Constable -/
def k5 : Class := { plain "java/lang/constant/Constable" (some 0) with
  accessFlags := 1537
  interfaces := #[]
  cf := some (fileOf pool5 1 #[] #[] 1537 3 #[] #[])
  fields := #[]
  methods := #[]
  instanceTypes := #[]
  staticTypes := #[]
  resolved := Array.replicate 11 none
  statics := none }

def pool6 : Array CpInfo := pool [(1, .class_ 2), (0, u "java/lang/constant/ConstantDesc"), (0, .class_ 4), (0, u "java/lang/Object")] 32

/-- java/lang/constant/ConstantDesc -/
def k6 : Class := { plain "java/lang/constant/ConstantDesc" (some 0) with
  accessFlags := 1537
  interfaces := #[]
  cf := some (fileOf pool6 1 #[] #[] 1537 3 #[] #[])
  fields := #[]
  methods := #[]
  instanceTypes := #[]
  staticTypes := #[]
  resolved := Array.replicate 37 none
  statics := none }

def pool7 : Array CpInfo := pool [(1, .methodref 2 3), (0, .class_ 4), (0, .nameAndType 5 6), (0, u "java/lang/Object"), (0, u "<init>"), (0, u "()V"), (0, .string 8), (0, u ""), (0, .fieldref 10 11), (0, .class_ 12), (0, .nameAndType 13 14), (0, u "java/lang/String"), (0, u "value"), (0, u "[B"), (0, .fieldref 10 16), (0, .nameAndType 17 18), (0, u "coder"), (0, u "B"), (2, u "hash"), (0, u "I"), (2, u "hashIsZero"), (0, u "Z"), (0, .methodref 10 28), (0, .nameAndType 5 29), (0, u "([CIILjava/lang/Void;)V"), (8, .fieldref 10 39), (0, .nameAndType 40 26), (0, u "COMPACT_STRINGS"), (1, .class_ 44), (1, u "java/lang/StringUTF16"), (0, u "compress"), (1, .methodref 42 48), (0, .nameAndType 49 50), (0, u "coderFromArrayLen"), (0, u "([BI)B"), (56, .class_ 109), (1, u "java/lang/StringLatin1"), (32, u "()Z"), (34, .methodref 42 178), (0, .nameAndType 45 179), (0, u "([CII)[B"), (154, u "()I"), (0, .methodref 10 336), (0, .nameAndType 17 337), (0, u "()B"), (25, u "([BI)C"), (27, u "(II)V"), (35, u "(I)C"), (64, .methodref 10 493), (0, .nameAndType 494 142), (0, u "isLatin1"), (0, .methodref 107 496), (0, .nameAndType 497 363), (0, u "charAt"), (3, u "checkIndex"), (5, u "length"), (33, .methodref 107 542), (0, .nameAndType 543 544), (0, u "equals"), (0, u "([B[B)Z"), (28, u "(Ljava/lang/Object;)Z"), (1, .class_ 576), (0, u "java/lang/CharSequence"), (22, u "CASE_INSENSITIVE_ORDER"), (0, u "Ljava/util/Comparator;"), (409, u "([C)V"), (42, .fieldref 1054 1055), (0, .class_ 1056), (0, .nameAndType 1057 1058), (0, u "jdk/internal/util/Preconditions"), (0, u "SIOOBE_FORMATTER"), (0, u "Ljava/util/function/BiFunction;"), (0, .methodref 1054 1060), (0, .nameAndType 501 1061), (0, u "(IILjava/util/function/BiFunction;)I"), (39, u "serialPersistentFields"), (0, u "[Ljava/io/ObjectStreamField;"), (0, .class_ 1104), (0, u "java/lang/String$CaseInsensitiveComparator"), (1, .class_ 1107), (0, u "java/io/Serializable"), (0, .class_ 1109), (0, u "java/lang/Comparable"), (0, .class_ 1111), (0, u "java/lang/constant/Constable"), (0, .class_ 1113), (0, u "java/lang/constant/ConstantDesc"), (2, u "serialVersionUID"), (0, u "J"), (3, u "REPL"), (0, u "C"), (2, u "LATIN1"), (1, u "UTF16")] 323

def k7m0 : Method := { name := "<init>", desc := "()V", sig := { parameters := [], returnType := none }, accessFlags := 1, code := none }
def k7c1 : Code := { maxStack := 5, maxLocals := 2, code := jdk_42_method_3_code, exceptionTable := #[], attributes := #[] }
def k7m1 : Method := { name := "<init>", desc := "([C)V", sig := { parameters := [(.array .char)], returnType := none }, accessFlags := 1, code := some k7c1 }
def k7c2 : Code := { maxStack := 2, maxLocals := 1, code := jdk_42_method_54_code, exceptionTable := #[], attributes := #[] }
def k7m2 : Method := { name := "length", desc := "()I", sig := { parameters := [], returnType := some .int }, accessFlags := 1, code := some k7c2 }
def k7c3 : Code := { maxStack := 2, maxLocals := 2, code := jdk_42_method_56_code, exceptionTable := #[], attributes := #[] }
def k7m3 : Method := { name := "charAt", desc := "(I)C", sig := { parameters := [.int], returnType := some .char }, accessFlags := 1, code := some k7c3 }
def k7c4 : Code := { maxStack := 2, maxLocals := 3, code := jdk_42_method_66_code, exceptionTable := #[], attributes := #[] }
def k7m4 : Method := { name := "equals", desc := "(Ljava/lang/Object;)Z", sig := { parameters := [(.object "java/lang/Object")], returnType := some .boolean }, accessFlags := 1, code := some k7c4 }
def k7c5 : Code := { maxStack := 4, maxLocals := 6, code := jdk_42_method_149_code, exceptionTable := #[], attributes := #[] }
def k7m5 : Method := { name := "<init>", desc := "([CIILjava/lang/Void;)V", sig := { parameters := [(.array .char), .int, .int, (.object "java/lang/Void")], returnType := none }, accessFlags := 2, code := some k7c5 }
def k7c6 : Code := { maxStack := 1, maxLocals := 1, code := jdk_42_method_152_code, exceptionTable := #[], attributes := #[] }
def k7m6 : Method := { name := "coder", desc := "()B", sig := { parameters := [], returnType := some .byte }, accessFlags := 0, code := some k7c6 }
def k7c7 : Code := { maxStack := 1, maxLocals := 1, code := jdk_42_method_154_code, exceptionTable := #[], attributes := #[] }
def k7m7 : Method := { name := "isLatin1", desc := "()Z", sig := { parameters := [], returnType := some .boolean }, accessFlags := 0, code := some k7c7 }
def k7c8 : Code := { maxStack := 3, maxLocals := 2, code := jdk_42_method_155_code, exceptionTable := #[], attributes := #[] }
def k7m8 : Method := { name := "checkIndex", desc := "(II)V", sig := { parameters := [.int, .int], returnType := none }, accessFlags := 8, code := some k7c8 }
/-- java/lang/String -/
def k7 : Class := { plain "java/lang/String" (some 0) with
  accessFlags := 49
  interfaces := #[2, 3, 4, 5, 6]
  cf := some (fileOf pool7 10 #[.nestMembers #[1103]] #[{ accessFlags := 1, nameIndex := 5, descriptorIndex := 6, attributes := #[] }, { accessFlags := 1, nameIndex := 5, descriptorIndex := 1010, attributes := #[] }, { accessFlags := 1, nameIndex := 507, descriptorIndex := 334, attributes := #[] }, { accessFlags := 1, nameIndex := 497, descriptorIndex := 427, attributes := #[] }, { accessFlags := 1, nameIndex := 543, descriptorIndex := 573, attributes := #[] }, { accessFlags := 2, nameIndex := 5, descriptorIndex := 29, attributes := #[] }, { accessFlags := 0, nameIndex := 17, descriptorIndex := 337, attributes := #[] }, { accessFlags := 0, nameIndex := 494, descriptorIndex := 142, attributes := #[] }, { accessFlags := 8, nameIndex := 501, descriptorIndex := 391, attributes := #[] }] 49 2 #[1106, 1108, 575, 1110, 1112] #[{ accessFlags := 18, nameIndex := 13, descriptorIndex := 14, attributes := #[] }, { accessFlags := 18, nameIndex := 17, descriptorIndex := 18, attributes := #[] }, { accessFlags := 2, nameIndex := 21, descriptorIndex := 22, attributes := #[] }, { accessFlags := 2, nameIndex := 25, descriptorIndex := 26, attributes := #[] }, { accessFlags := 26, nameIndex := 1116, descriptorIndex := 1117, attributes := #[] }, { accessFlags := 24, nameIndex := 40, descriptorIndex := 26, attributes := #[] }, { accessFlags := 26, nameIndex := 1101, descriptorIndex := 1102, attributes := #[] }, { accessFlags := 26, nameIndex := 1121, descriptorIndex := 1122, attributes := #[] }, { accessFlags := 25, nameIndex := 599, descriptorIndex := 600, attributes := #[] }, { accessFlags := 24, nameIndex := 1125, descriptorIndex := 18, attributes := #[] }, { accessFlags := 24, nameIndex := 1127, descriptorIndex := 18, attributes := #[] }])
  fields := #[{ name := "value", type := (.array .byte), accessFlags := 18, slot := 0, constantValue := 0 }, { name := "coder", type := .byte, accessFlags := 18, slot := 1, constantValue := 0 }, { name := "hash", type := .int, accessFlags := 2, slot := 2, constantValue := 0 }, { name := "hashIsZero", type := .boolean, accessFlags := 2, slot := 3, constantValue := 0 }, { name := "serialVersionUID", type := .long, accessFlags := 26, slot := 0, constantValue := 0 }, { name := "COMPACT_STRINGS", type := .boolean, accessFlags := 24, slot := 1, constantValue := 0 }, { name := "serialPersistentFields", type := (.array (.object "java/io/ObjectStreamField")), accessFlags := 26, slot := 2, constantValue := 0 }, { name := "REPL", type := .char, accessFlags := 26, slot := 3, constantValue := 0 }, { name := "CASE_INSENSITIVE_ORDER", type := (.object "java/util/Comparator"), accessFlags := 25, slot := 4, constantValue := 0 }, { name := "LATIN1", type := .byte, accessFlags := 24, slot := 5, constantValue := 0 }, { name := "UTF16", type := .byte, accessFlags := 24, slot := 6, constantValue := 0 }]
  methods := #[k7m0, k7m1, k7m2, k7m3, k7m4, k7m5, k7m6, k7m7, k7m8]
  instanceTypes := #[(.array .byte), .byte, .int, .boolean]
  staticTypes := #[.long, .boolean, (.array (.object "java/io/ObjectStreamField")), .char, (.object "java/util/Comparator"), .byte, .byte]
  resolved := Array.replicate 1451 none
  statics := some 0 }

def pool8 : Array CpInfo := pool [(1, .class_ 2), (0, u "java/lang/String"), (1, .class_ 6), (1, u "java/lang/Object"), (0, u "<init>"), (0, u "()V"), (0, .methodref 1 10), (0, .nameAndType 11 12), (0, u "checkIndex"), (0, u "(II)V"), (1, .class_ 16), (1, u "java/lang/StringLatin1"), (36, u "([BI)C"), (67, u "$assertionsDisabled"), (0, u "Z"), (98, .class_ 223), (1, u "java/lang/StringLatin1$LinesSpliterator"), (28, u "charAt"), (28, u "equals"), (0, u "([B[B)Z"), (107, .class_ 391), (0, u "java/lang/StringLatin1$CharsSpliterator")] 3

def k8m0 : Method := { name := "<init>", desc := "()V", sig := { parameters := [], returnType := none }, accessFlags := 0, code := none }
def k8c1 : Code := { maxStack := 2, maxLocals := 2, code := jdk_43_method_2_code, exceptionTable := #[], attributes := #[] }
def k8m1 : Method := { name := "charAt", desc := "([BI)C", sig := { parameters := [(.array .byte), .int], returnType := some .char }, accessFlags := 9, code := some k8c1 }
def k8c2 : Code := { maxStack := 3, maxLocals := 3, code := jdk_43_method_13_code, exceptionTable := #[], attributes := #[] }
def k8m2 : Method := { name := "equals", desc := "([B[B)Z", sig := { parameters := [(.array .byte), (.array .byte)], returnType := some .boolean }, accessFlags := 9, code := some k8c2 }
/-- java/lang/StringLatin1 -/
def k8 : Class := { plain "java/lang/StringLatin1" (some 0) with
  accessFlags := 48
  interfaces := #[]
  cf := some (fileOf pool8 14 #[.nestMembers #[390, 221]] #[{ accessFlags := 0, nameIndex := 7, descriptorIndex := 8, attributes := #[] }, { accessFlags := 9, nameIndex := 252, descriptorIndex := 53, attributes := #[] }, { accessFlags := 9, nameIndex := 281, descriptorIndex := 282, attributes := #[] }] 48 4 #[] #[{ accessFlags := 4120, nameIndex := 121, descriptorIndex := 122, attributes := #[] }])
  fields := #[{ name := "$assertionsDisabled", type := .boolean, accessFlags := 4120, slot := 0, constantValue := 0 }]
  methods := #[k8m0, k8m1, k8m2]
  instanceTypes := #[]
  staticTypes := #[.boolean]
  resolved := Array.replicate 395 none
  statics := none }

def pool9 : Array CpInfo := pool [(2, .class_ 4), (1, u "java/lang/Object"), (0, u "<init>"), (0, u "()V"), (17, .class_ 26), (1, u "jdk/internal/util/Preconditions"), (6, u "checkIndex"), (21, .class_ 56), (0, u "jdk/internal/util/Preconditions$4"), (57, .class_ 115), (0, u "jdk/internal/util/Preconditions$1"), (7, u "SIOOBE_FORMATTER"), (0, u "Ljava/util/function/BiFunction;"), (0, .class_ 126), (0, u "jdk/internal/util/Preconditions$2"), (3, u "AIOOBE_FORMATTER"), (0, .class_ 132), (0, u "jdk/internal/util/Preconditions$3"), (3, u "IOOBE_FORMATTER"), (41, u "(IILjava/util/function/BiFunction;)I")] 15

def k9m0 : Method := { name := "<init>", desc := "()V", sig := { parameters := [], returnType := none }, accessFlags := 1, code := none }
def k9c1 : Code := { maxStack := 3, maxLocals := 3, code := jdk_41_method_11_code, exceptionTable := #[], attributes := #[] }
def k9m1 : Method := { name := "checkIndex", desc := "(IILjava/util/function/BiFunction;)I", sig := { parameters := [.int, .int, (.object "java/util/function/BiFunction")], returnType := some .int }, accessFlags := 9, code := some k9c1 }
/-- jdk/internal/util/Preconditions -/
def k9 : Class := { plain "jdk/internal/util/Preconditions" (some 0) with
  accessFlags := 33
  interfaces := #[]
  cf := some (fileOf pool9 24 #[.nestMembers #[55, 131, 125, 114]] #[{ accessFlags := 1, nameIndex := 5, descriptorIndex := 6, attributes := #[] }, { accessFlags := 9, nameIndex := 33, descriptorIndex := 178, attributes := #[] }] 33 2 #[] #[{ accessFlags := 25, nameIndex := 123, descriptorIndex := 124, attributes := #[] }, { accessFlags := 25, nameIndex := 130, descriptorIndex := 124, attributes := #[] }, { accessFlags := 25, nameIndex := 136, descriptorIndex := 124, attributes := #[] }])
  fields := #[{ name := "SIOOBE_FORMATTER", type := (.object "java/util/function/BiFunction"), accessFlags := 25, slot := 0, constantValue := 0 }, { name := "AIOOBE_FORMATTER", type := (.object "java/util/function/BiFunction"), accessFlags := 25, slot := 1, constantValue := 0 }, { name := "IOOBE_FORMATTER", type := (.object "java/util/function/BiFunction"), accessFlags := 25, slot := 2, constantValue := 0 }]
  methods := #[k9m0, k9m1]
  instanceTypes := #[]
  staticTypes := #[(.object "java/util/function/BiFunction"), (.object "java/util/function/BiFunction"), (.object "java/util/function/BiFunction")]
  resolved := Array.replicate 194 none
  statics := some 1 }

def pool10 : Array CpInfo := pool [(6, .class_ 8), (1, u "java/lang/Object"), (0, u "<init>"), (0, u "()V"), (1, .class_ 14), (1, u "java/lang/StringUTF16"), (31, u "$assertionsDisabled"), (0, u "Z"), (13, u "HI_BYTE_SHIFT"), (0, u "I"), (2, u "LO_BYTE_SHIFT"), (49, .methodref 12 116), (0, .nameAndType 117 118), (0, u "compress"), (0, u "([CI[BII)I"), (3, u "([CII)[B"), (138, u "coderFromArrayLen"), (0, u "([BI)B"), (106, .class_ 371), (1, u "java/lang/StringUTF16$LinesSpliterator"), (58, u "MAX_LENGTH"), (196, .class_ 628), (0, u "java/lang/StringUTF16$CodePointsSpliterator"), (0, .class_ 630), (0, u "java/lang/StringUTF16$CharsSpliterator")] 4

def k10m0 : Method := { name := "<init>", desc := "()V", sig := { parameters := [], returnType := none }, accessFlags := 0, code := none }
def k10c1 : Code := { maxStack := 2, maxLocals := 2, code := jdk_52_method_15_code, exceptionTable := #[], attributes := #[] }
def k10m1 : Method := { name := "coderFromArrayLen", desc := "([BI)B", sig := { parameters := [(.array .byte), .int], returnType := some .byte }, accessFlags := 8, code := some k10c1 }
def k10c2 : Code := { maxStack := 5, maxLocals := 6, code := jdk_52_method_16_code, exceptionTable := #[], attributes := #[] }
def k10m2 : Method := { name := "compress", desc := "([CII)[B", sig := { parameters := [(.array .char), .int, .int], returnType := some (.array .byte) }, accessFlags := 9, code := some k10c2 }
def k10c3 : Code := { maxStack := 3, maxLocals := 7, code := jdk_52_method_21_code, exceptionTable := #[], attributes := #[] }
def k10m3 : Method := { name := "compress", desc := "([CI[BII)I", sig := { parameters := [(.array .char), .int, (.array .byte), .int, .int], returnType := some .int }, accessFlags := 9, code := some k10c3 }
/-- java/lang/StringUTF16 -/
def k10 : Class := { plain "java/lang/StringUTF16" (some 0) with
  accessFlags := 48
  interfaces := #[]
  cf := some (fileOf pool10 12 #[.nestMembers #[627, 629, 369]] #[{ accessFlags := 0, nameIndex := 9, descriptorIndex := 10, attributes := #[] }, { accessFlags := 8, nameIndex := 261, descriptorIndex := 262, attributes := #[] }, { accessFlags := 9, nameIndex := 117, descriptorIndex := 122, attributes := #[] }, { accessFlags := 9, nameIndex := 117, descriptorIndex := 118, attributes := #[] }] 48 6 #[] #[{ accessFlags := 26, nameIndex := 61, descriptorIndex := 62, attributes := #[] }, { accessFlags := 26, nameIndex := 65, descriptorIndex := 62, attributes := #[] }, { accessFlags := 24, nameIndex := 430, descriptorIndex := 62, attributes := #[] }, { accessFlags := 4120, nameIndex := 46, descriptorIndex := 47, attributes := #[] }])
  fields := #[{ name := "HI_BYTE_SHIFT", type := .int, accessFlags := 26, slot := 0, constantValue := 0 }, { name := "LO_BYTE_SHIFT", type := .int, accessFlags := 26, slot := 1, constantValue := 0 }, { name := "MAX_LENGTH", type := .int, accessFlags := 24, slot := 2, constantValue := 0 }, { name := "$assertionsDisabled", type := .boolean, accessFlags := 4120, slot := 3, constantValue := 0 }]
  methods := #[k10m0, k10m1, k10m2, k10m3]
  instanceTypes := #[]
  staticTypes := #[.int, .int, .int, .boolean]
  resolved := Array.replicate 635 none
  statics := none }

def pool11 : Array CpInfo := pool [(2, .class_ 4), (1, u "java/lang/Enum"), (0, u "name"), (0, u "Ljava/lang/String;"), (2, u "ordinal"), (0, u "I"), (1, .class_ 14), (1, u "java/lang/Object"), (4, u "hash"), (86, .class_ 108), (1, u "java/lang/Enum$EnumDesc"), (2, .class_ 112), (0, u "java/lang/constant/Constable"), (0, .class_ 114), (0, u "java/lang/Comparable"), (0, .class_ 116), (0, u "java/io/Serializable")] 87

/-- java/lang/Enum -/
def k11 : Class := { plain "java/lang/Enum" (some 0) with
  accessFlags := 1057
  interfaces := #[5, 3, 2]
  cf := some (fileOf pool11 2 #[.nestMembers #[106]] #[] 1057 12 #[111, 113, 115] #[{ accessFlags := 18, nameIndex := 5, descriptorIndex := 6, attributes := #[] }, { accessFlags := 18, nameIndex := 9, descriptorIndex := 10, attributes := #[] }, { accessFlags := 2, nameIndex := 19, descriptorIndex := 10, attributes := #[] }])
  fields := #[{ name := "name", type := (.object "java/lang/String"), accessFlags := 18, slot := 0, constantValue := 0 }, { name := "ordinal", type := .int, accessFlags := 18, slot := 1, constantValue := 0 }, { name := "hash", type := .int, accessFlags := 2, slot := 2, constantValue := 0 }]
  methods := #[]
  instanceTypes := #[(.object "java/lang/String"), .int, .int]
  staticTypes := #[]
  resolved := Array.replicate 204 none
  statics := none }

def pool12 : Array CpInfo := pool [(1, .class_ 2), (0, u "com/example/contesta/contesta/fusion/Method"), (2, u "ROUND_ROBIN"), (0, u "Lcom/example/contesta/contesta/fusion/Method;"), (2, u "RSV"), (2, u "COMB_SUM"), (2, u "COMB_MNZ"), (0, .fieldref 1 17), (0, .nameAndType 18 19), (0, u "$VALUES"), (0, u "[Lcom/example/contesta/contesta/fusion/Method;"), (0, .methodref 21 22), (0, .class_ 19), (0, .nameAndType 23 24), (0, u "clone"), (0, u "()Ljava/lang/Object;"), (1, .class_ 28), (1, u "java/lang/Enum"), (6, .fieldref 1 36), (0, .nameAndType 37 38), (0, u "label"), (0, u "Ljava/lang/String;"), (2, u "summary"), (0, .methodref 43 44), (0, .class_ 45), (0, .nameAndType 46 47), (0, u "java/util/Optional"), (0, u "empty"), (0, u "()Ljava/util/Optional;"), (0, .methodref 1 49), (0, .nameAndType 50 51), (0, u "values"), (0, u "()[Lcom/example/contesta/contesta/fusion/Method;"), (0, .methodref 53 54), (0, .class_ 55), (0, .nameAndType 56 57), (0, u "java/lang/String"), (0, u "equals"), (0, u "(Ljava/lang/Object;)Z"), (0, .methodref 43 59), (0, .nameAndType 60 61), (0, u "of"), (0, u "(Ljava/lang/Object;)Ljava/util/Optional;"), (33, u "named"), (0, u "(Ljava/lang/String;)Ljava/util/Optional;")] 7

def k12c0 : Code := { maxStack := 1, maxLocals := 0, code := prog_16_method_1_code, exceptionTable := #[], attributes := #[] }
def k12m0 : Method := { name := "values", desc := "()[Lcom/example/contesta/contesta/fusion/Method;", sig := { parameters := [], returnType := some (.array (.object "com/example/contesta/contesta/fusion/Method")) }, accessFlags := 9, code := some k12c0 }
def k12c1 : Code := { maxStack := 2, maxLocals := 6, code := prog_16_method_6_code, exceptionTable := #[], attributes := #[] }
def k12m1 : Method := { name := "named", desc := "(Ljava/lang/String;)Ljava/util/Optional;", sig := { parameters := [(.object "java/lang/String")], returnType := some (.object "java/util/Optional") }, accessFlags := 9, code := some k12c1 }
/-- com/example/contesta/contesta/fusion/Method -/
def k12 : Class := { plain "com/example/contesta/contesta/fusion/Method" (some 11) with
  accessFlags := 16433
  interfaces := #[]
  cf := some (fileOf pool12 1 #[] #[{ accessFlags := 9, nameIndex := 50, descriptorIndex := 51, attributes := #[] }, { accessFlags := 9, nameIndex := 95, descriptorIndex := 96, attributes := #[] }] 16433 26 #[] #[{ accessFlags := 16409, nameIndex := 5, descriptorIndex := 6, attributes := #[] }, { accessFlags := 16409, nameIndex := 9, descriptorIndex := 6, attributes := #[] }, { accessFlags := 16409, nameIndex := 12, descriptorIndex := 6, attributes := #[] }, { accessFlags := 16409, nameIndex := 15, descriptorIndex := 6, attributes := #[] }, { accessFlags := 18, nameIndex := 37, descriptorIndex := 38, attributes := #[] }, { accessFlags := 18, nameIndex := 41, descriptorIndex := 38, attributes := #[] }, { accessFlags := 4122, nameIndex := 18, descriptorIndex := 19, attributes := #[] }])
  fields := #[{ name := "ROUND_ROBIN", type := (.object "com/example/contesta/contesta/fusion/Method"), accessFlags := 16409, slot := 0, constantValue := 0 }, { name := "RSV", type := (.object "com/example/contesta/contesta/fusion/Method"), accessFlags := 16409, slot := 1, constantValue := 0 }, { name := "COMB_SUM", type := (.object "com/example/contesta/contesta/fusion/Method"), accessFlags := 16409, slot := 2, constantValue := 0 }, { name := "COMB_MNZ", type := (.object "com/example/contesta/contesta/fusion/Method"), accessFlags := 16409, slot := 3, constantValue := 0 }, { name := "label", type := (.object "java/lang/String"), accessFlags := 18, slot := 3, constantValue := 0 }, { name := "summary", type := (.object "java/lang/String"), accessFlags := 18, slot := 4, constantValue := 0 }, { name := "$VALUES", type := (.array (.object "com/example/contesta/contesta/fusion/Method")), accessFlags := 4122, slot := 4, constantValue := 0 }]
  methods := #[k12m0, k12m1]
  instanceTypes := #[(.object "java/lang/String"), .int, .int, (.object "java/lang/String"), (.object "java/lang/String")]
  staticTypes := #[(.object "com/example/contesta/contesta/fusion/Method"), (.object "com/example/contesta/contesta/fusion/Method"), (.object "com/example/contesta/contesta/fusion/Method"), (.object "com/example/contesta/contesta/fusion/Method"), (.array (.object "com/example/contesta/contesta/fusion/Method"))]
  resolved := Array.replicate 104 none
  statics := some 2 }

def pool13 : Array CpInfo := pool [(1, .fieldref 2 3), (0, .class_ 4), (0, .nameAndType 5 6), (0, u "java/util/Optional"), (0, u "EMPTY"), (0, u "Ljava/util/Optional;"), (0, .methodref 8 9), (0, .class_ 10), (0, .nameAndType 11 12), (0, u "java/lang/Object"), (0, u "<init>"), (0, u "()V"), (0, .fieldref 2 14), (0, .nameAndType 15 16), (0, u "value"), (0, u "Ljava/lang/Object;"), (0, .methodref 18 19), (0, .class_ 20), (0, .nameAndType 21 22), (0, u "java/util/Objects"), (0, u "requireNonNull"), (0, u "(Ljava/lang/Object;)Ljava/lang/Object;"), (0, .methodref 2 24), (0, .nameAndType 11 25), (0, u "(Ljava/lang/Object;)V"), (29, u "empty"), (0, u "()Ljava/util/Optional;"), (8, u "(Ljava/lang/Object;)Ljava/util/Optional;"), (16, u "of"), (82, u "orElse")] 21

def k13c0 : Code := { maxStack := 1, maxLocals := 1, code := jdk_32_method_1_code, exceptionTable := #[], attributes := #[] }
def k13m0 : Method := { name := "empty", desc := "()Ljava/util/Optional;", sig := { parameters := [], returnType := some (.object "java/util/Optional") }, accessFlags := 9, code := some k13c0 }
def k13c1 : Code := { maxStack := 2, maxLocals := 2, code := jdk_32_method_2_code, exceptionTable := #[], attributes := #[] }
def k13m1 : Method := { name := "<init>", desc := "(Ljava/lang/Object;)V", sig := { parameters := [(.object "java/lang/Object")], returnType := none }, accessFlags := 2, code := some k13c1 }
def k13c2 : Code := { maxStack := 3, maxLocals := 1, code := jdk_32_method_3_code, exceptionTable := #[], attributes := #[] }
def k13m2 : Method := { name := "of", desc := "(Ljava/lang/Object;)Ljava/util/Optional;", sig := { parameters := [(.object "java/lang/Object")], returnType := some (.object "java/util/Optional") }, accessFlags := 9, code := some k13c2 }
def k13c3 : Code := { maxStack := 1, maxLocals := 2, code := jdk_32_method_15_code, exceptionTable := #[], attributes := #[] }
def k13m3 : Method := { name := "orElse", desc := "(Ljava/lang/Object;)Ljava/lang/Object;", sig := { parameters := [(.object "java/lang/Object")], returnType := some (.object "java/lang/Object") }, accessFlags := 1, code := some k13c3 }
/-- java/util/Optional -/
def k13 : Class := { plain "java/util/Optional" (some 0) with
  accessFlags := 49
  interfaces := #[]
  cf := some (fileOf pool13 2 #[] #[{ accessFlags := 9, nameIndex := 55, descriptorIndex := 56, attributes := #[] }, { accessFlags := 2, nameIndex := 11, descriptorIndex := 25, attributes := #[] }, { accessFlags := 9, nameIndex := 82, descriptorIndex := 65, attributes := #[] }, { accessFlags := 1, nameIndex := 165, descriptorIndex := 22, attributes := #[] }] 49 8 #[] #[{ accessFlags := 26, nameIndex := 5, descriptorIndex := 6, attributes := #[] }, { accessFlags := 18, nameIndex := 15, descriptorIndex := 16, attributes := #[] }])
  fields := #[{ name := "EMPTY", type := (.object "java/util/Optional"), accessFlags := 26, slot := 0, constantValue := 0 }, { name := "value", type := (.object "java/lang/Object"), accessFlags := 18, slot := 0, constantValue := 0 }]
  methods := #[k13m0, k13m1, k13m2, k13m3]
  instanceTypes := #[(.object "java/lang/Object")]
  staticTypes := #[(.object "java/util/Optional")]
  resolved := Array.replicate 187 none
  statics := some 3 }

def pool14 : Array CpInfo := pool [(1, .class_ 2), (0, u "java/lang/Cloneable"), (0, .class_ 4), (0, u "java/lang/Object")] 2

/-- java/lang/Cloneable -/
def k14 : Class := { plain "java/lang/Cloneable" (some 0) with
  accessFlags := 1537
  interfaces := #[]
  cf := some (fileOf pool14 1 #[] #[] 1537 3 #[] #[])
  fields := #[]
  methods := #[]
  instanceTypes := #[]
  staticTypes := #[]
  resolved := Array.replicate 7 none
  statics := none }

def pool15 : Array CpInfo := pool [(2, .class_ 4), (1, u "java/lang/Object"), (0, u "<init>"), (0, u "()V"), (35, .class_ 44), (1, u "java/util/Objects"), (0, u "requireNonNull"), (0, u "(Ljava/lang/Object;)Ljava/lang/Object;")] 137

def k15m0 : Method := { name := "<init>", desc := "()V", sig := { parameters := [], returnType := none }, accessFlags := 2, code := none }
def k15c1 : Code := { maxStack := 2, maxLocals := 1, code := jdk_31_method_10_code, exceptionTable := #[], attributes := #[] }
def k15m1 : Method := { name := "requireNonNull", desc := "(Ljava/lang/Object;)Ljava/lang/Object;", sig := { parameters := [(.object "java/lang/Object")], returnType := some (.object "java/lang/Object") }, accessFlags := 9, code := some k15c1 }
/-- java/util/Objects -/
def k15 : Class := { plain "java/util/Objects" (some 0) with
  accessFlags := 49
  interfaces := #[]
  cf := some (fileOf pool15 42 #[] #[{ accessFlags := 2, nameIndex := 5, descriptorIndex := 6, attributes := #[] }, { accessFlags := 9, nameIndex := 45, descriptorIndex := 46, attributes := #[] }] 49 2 #[] #[])
  fields := #[]
  methods := #[k15m0, k15m1]
  instanceTypes := #[]
  staticTypes := #[]
  resolved := Array.replicate 184 none
  statics := none }

def pool16 : Array CpInfo := pool [(9, u "<init>"), (6, .class_ 18), (1, u "java/lang/Object"), (0, u "()V"), (1, .class_ 23), (1, u "jdk/internal/util/ArraysSupport"), (0, u "LOG2_ARRAY_LONG_INDEX_SCALE"), (0, u "I"), (2, u "U"), (0, u "Ljdk/internal/misc/Unsafe;"), (8, u "BIG_ENDIAN"), (0, u "Z"), (8, u "LOG2_BYTE_BIT_SIZE"), (4, u "LOG2_ARRAY_INT_INDEX_SCALE"), (54, u "JLA"), (0, u "Ljdk/internal/access/JavaLangAccess;"), (11, u "LOG2_ARRAY_BOOLEAN_INDEX_SCALE"), (9, u "LOG2_ARRAY_BYTE_INDEX_SCALE"), (5, u "LOG2_ARRAY_CHAR_INDEX_SCALE"), (5, u "LOG2_ARRAY_SHORT_INDEX_SCALE"), (18, u "LOG2_ARRAY_FLOAT_INDEX_SCALE"), (24, u "LOG2_ARRAY_DOUBLE_INDEX_SCALE"), (89, u "T_BOOLEAN"), (2, u "T_CHAR"), (1, u "T_FLOAT"), (1, u "T_DOUBLE"), (1, u "T_BYTE"), (1, u "T_SHORT"), (1, u "T_INT"), (1, u "T_LONG"), (1, u "SOFT_MAX_ARRAY_LENGTH")] 83

def k16m0 : Method := { name := "<init>", desc := "()V", sig := { parameters := [], returnType := none }, accessFlags := 2, code := none }
/-- jdk/internal/util/ArraysSupport -/
def k16 : Class := { plain "jdk/internal/util/ArraysSupport" (some 0) with
  accessFlags := 33
  interfaces := #[]
  cf := some (fileOf pool16 21 #[] #[{ accessFlags := 2, nameIndex := 9, descriptorIndex := 19, attributes := #[] }] 33 16 #[] #[{ accessFlags := 24, nameIndex := 28, descriptorIndex := 29, attributes := #[] }, { accessFlags := 26, nameIndex := 38, descriptorIndex := 39, attributes := #[] }, { accessFlags := 25, nameIndex := 121, descriptorIndex := 25, attributes := #[] }, { accessFlags := 25, nameIndex := 131, descriptorIndex := 25, attributes := #[] }, { accessFlags := 25, nameIndex := 137, descriptorIndex := 25, attributes := #[] }, { accessFlags := 25, nameIndex := 143, descriptorIndex := 25, attributes := #[] }, { accessFlags := 25, nameIndex := 53, descriptorIndex := 25, attributes := #[] }, { accessFlags := 25, nameIndex := 24, descriptorIndex := 25, attributes := #[] }, { accessFlags := 25, nameIndex := 162, descriptorIndex := 25, attributes := #[] }, { accessFlags := 25, nameIndex := 187, descriptorIndex := 25, attributes := #[] }, { accessFlags := 26, nameIndex := 48, descriptorIndex := 25, attributes := #[] }, { accessFlags := 25, nameIndex := 277, descriptorIndex := 25, attributes := #[] }, { accessFlags := 25, nameIndex := 280, descriptorIndex := 25, attributes := #[] }, { accessFlags := 25, nameIndex := 282, descriptorIndex := 25, attributes := #[] }, { accessFlags := 25, nameIndex := 284, descriptorIndex := 25, attributes := #[] }, { accessFlags := 25, nameIndex := 286, descriptorIndex := 25, attributes := #[] }, { accessFlags := 25, nameIndex := 288, descriptorIndex := 25, attributes := #[] }, { accessFlags := 25, nameIndex := 290, descriptorIndex := 25, attributes := #[] }, { accessFlags := 25, nameIndex := 292, descriptorIndex := 25, attributes := #[] }, { accessFlags := 26, nameIndex := 108, descriptorIndex := 109, attributes := #[] }, { accessFlags := 25, nameIndex := 294, descriptorIndex := 25, attributes := #[] }])
  fields := #[{ name := "U", type := (.object "jdk/internal/misc/Unsafe"), accessFlags := 24, slot := 0, constantValue := 0 }, { name := "BIG_ENDIAN", type := .boolean, accessFlags := 26, slot := 1, constantValue := 0 }, { name := "LOG2_ARRAY_BOOLEAN_INDEX_SCALE", type := .int, accessFlags := 25, slot := 2, constantValue := 0 }, { name := "LOG2_ARRAY_BYTE_INDEX_SCALE", type := .int, accessFlags := 25, slot := 3, constantValue := 0 }, { name := "LOG2_ARRAY_CHAR_INDEX_SCALE", type := .int, accessFlags := 25, slot := 4, constantValue := 0 }, { name := "LOG2_ARRAY_SHORT_INDEX_SCALE", type := .int, accessFlags := 25, slot := 5, constantValue := 0 }, { name := "LOG2_ARRAY_INT_INDEX_SCALE", type := .int, accessFlags := 25, slot := 6, constantValue := 0 }, { name := "LOG2_ARRAY_LONG_INDEX_SCALE", type := .int, accessFlags := 25, slot := 7, constantValue := 0 }, { name := "LOG2_ARRAY_FLOAT_INDEX_SCALE", type := .int, accessFlags := 25, slot := 8, constantValue := 0 }, { name := "LOG2_ARRAY_DOUBLE_INDEX_SCALE", type := .int, accessFlags := 25, slot := 9, constantValue := 0 }, { name := "LOG2_BYTE_BIT_SIZE", type := .int, accessFlags := 26, slot := 10, constantValue := 0 }, { name := "T_BOOLEAN", type := .int, accessFlags := 25, slot := 11, constantValue := 0 }, { name := "T_CHAR", type := .int, accessFlags := 25, slot := 12, constantValue := 0 }, { name := "T_FLOAT", type := .int, accessFlags := 25, slot := 13, constantValue := 0 }, { name := "T_DOUBLE", type := .int, accessFlags := 25, slot := 14, constantValue := 0 }, { name := "T_BYTE", type := .int, accessFlags := 25, slot := 15, constantValue := 0 }, { name := "T_SHORT", type := .int, accessFlags := 25, slot := 16, constantValue := 0 }, { name := "T_INT", type := .int, accessFlags := 25, slot := 17, constantValue := 0 }, { name := "T_LONG", type := .int, accessFlags := 25, slot := 18, constantValue := 0 }, { name := "JLA", type := (.object "jdk/internal/access/JavaLangAccess"), accessFlags := 26, slot := 19, constantValue := 0 }, { name := "SOFT_MAX_ARRAY_LENGTH", type := .int, accessFlags := 25, slot := 20, constantValue := 0 }]
  methods := #[k16m0]
  instanceTypes := #[]
  staticTypes := #[(.object "jdk/internal/misc/Unsafe"), .boolean, .int, .int, .int, .int, .int, .int, .int, .int, .int, .int, .int, .int, .int, .int, .int, .int, .int, (.object "jdk/internal/access/JavaLangAccess"), .int]
  resolved := Array.replicate 378 none
  statics := none }

/-- the primitive byte -/
def k17 : Class := { plain "byte" none with kind := .primitive 'B', accessFlags := 0x411 }
/-- [B -/
def k18 : Class := { plain "[B" (some 0) with kind := .array 17 .byte, interfaces := #[14, 2], accessFlags := 1041 }

/-- the primitive char -/
def k19 : Class := { plain "char" none with kind := .primitive 'C', accessFlags := 0x411 }
/-- [C -/
def k20 : Class := { plain "[C" (some 0) with kind := .array 19 .char, interfaces := #[14, 2], accessFlags := 1041 }

/-- the primitive int -/
def k21 : Class := { plain "int" none with kind := .primitive 'I', accessFlags := 0x411 }
/-- [I -/
def k22 : Class := { plain "[I" (some 0) with kind := .array 21 .int, interfaces := #[14, 2], accessFlags := 1041 }

/-- [Lcom/example/contesta/contesta/fusion/Method; -/
def k23 : Class := { plain "[Lcom/example/contesta/contesta/fusion/Method;" (some 0) with kind := .array 12 (.object "com/example/contesta/contesta/fusion/Method"), interfaces := #[14, 2], accessFlags := 1041 }

def heap : Heap := #[{ cls := 7, slots := #[.long 0, .int 1, .null, .int 0, .null, .int 0, .int 0], vm := .statics 7 },
  { cls := 9, slots := #[.null, .null, .null], vm := .statics 9 },
  { cls := 12, slots := #[.ref 5, .ref 6, .ref 7, .ref 8, .ref 4], vm := .statics 12 },
  { cls := 13, slots := #[.ref 17], vm := .statics 13 },
  { cls := 23, slots := #[.ref 5, .ref 6, .ref 7, .ref 8], vm := .none },
  { cls := 12, slots := #[.null, .int 0, .int 0, .ref 9, .null], vm := .none },
  { cls := 12, slots := #[.null, .int 0, .int 0, .ref 10, .null], vm := .none },
  { cls := 12, slots := #[.null, .int 0, .int 0, .ref 11, .null], vm := .none },
  { cls := 12, slots := #[.null, .int 0, .int 0, .ref 12, .null], vm := .none },
  { cls := 7, slots := #[.ref 13, .int 0, .int 0, .int 0], vm := .none },
  { cls := 7, slots := #[.ref 14, .int 0, .int 0, .int 0], vm := .none },
  { cls := 7, slots := #[.ref 15, .int 0, .int 0, .int 0], vm := .none },
  { cls := 7, slots := #[.ref 16, .int 0, .int 0, .int 0], vm := .none },
  { cls := 18, slots := #[.int 114, .int 111, .int 117, .int 110, .int 100, .int 114, .int 111, .int 98, .int 105, .int 110], vm := .none },
  { cls := 18, slots := #[.int 114, .int 115, .int 118], vm := .none },
  { cls := 18, slots := #[.int 99, .int 111, .int 109, .int 98, .int 115, .int 117, .int 109], vm := .none },
  { cls := 18, slots := #[.int 99, .int 111, .int 109, .int 98, .int 109, .int 110, .int 122], vm := .none },
  { cls := 13, slots := #[.null], vm := .none }]
def classes : Array Class := #[k0, k1, k2, k3, k4, k5, k6, k7, k8, k9, k10, k11, k12, k13, k14, k15, k16, k17, k18, k19, k20, k21, k22, k23]
def interned : List (Array UInt16 × Addr) := []
def slotsUsed : Nat := 84
def theMethod : MethodId := ⟨1, 1⟩
def args0 : Array Value := #[.int 5, .int 6, .int 7, .int 8, .int 9]
def aboutOver (below : List Frame) : State where
  vm := { classes := classes, interned := interned.toArray }
  heap := heap
  slotsUsed := slotsUsed
  threads := #[{ frames := .invoking theMethod args0 :: below }]
def below0 : List Frame := [.native { method := ⟨0, 0⟩, args := #[] }]
def about1 : State := aboutOver below0
def p0 : Program := .bare "" "" ""
def e0 : Env := launch0.env 0 0 0
theorem w_frames : about1.frames = Frame.invoking theMethod args0 :: below0 := rfl
set_option maxRecDepth 65536 in
theorem w_args : argsFit about1.vm theMethod args0 = true := by decide +kernel
set_option maxRecDepth 65536 in
theorem w_heap : heapFits about1 = true := by decide +kernel
set_option maxRecDepth 65536 in
theorem w_runnable : about1.curStatus? = some .runnable := by decide +kernel
set_option maxRecDepth 65536 in
theorem w_alone : about1.alone = true := by decide +kernel
set_option maxRecDepth 65536 in
theorem w_named : about1.methodNamed? x = some theMethod := by decide +kernel
set_option maxRecDepth 65536 in
theorem w_hears : about1.hears theMethod below0 = true := by decide +kernel
set_option maxRecDepth 65536 in
theorem w_ripe : about1.ripe theMethod args0 below0 = true := by decide +kernel
theorem w_running : about1.status = .running := rfl
set_option maxRecDepth 65536 in
theorem w_room : about1.hasRoom e0.platform room_1 = true :=
  launch0.hasRoom_least _ room_1 (by decide +kernel) (by decide +kernel) (by decide +kernel) (by decide +kernel) (by decide +kernel) (by decide +kernel)
theorem allAtoms_all (ts : List Jvm.Cond) (a : Array Jvm.Value) (st : Jvm.State) : (allAtoms ts).before a st = ts.all (fun c => c.before a st) := by
  induction ts with
  | nil => rfl
  | cons c t ih =>
    show (Jvm.Cond.and c (allAtoms t)).before a st = _
    rw [Jvm.Cond.before_and, ih, List.all_cons]
def words1 : List Jvm.Cond := Jvm.Cond.code x code maxLocals ret :: tables_1
/-- a 'code' word, met by the world's own term for the bytes: nothing is compared byte by byte -/
theorem code_word {y : MethodName} {bytes : ByteArray} {mx : Nat} {rt : Option FieldType} {a : Array Value} {s : State} {m : MethodId} {meth : Method} {c : Code} (h1 : s.methodNamed? y = some m) (h2 : s.vm.method? m = some meth) (h3 : meth.code = some c) (h4 : c.code = bytes)
    (h5 : (c.maxLocals == mx && c.exceptionTable.isEmpty && decide (c.maxStack ≤ mostOperands) && decide (meth.sig.returnType = rt) && !meth.locks && decide (parseMethodDescriptor y.desc = some meth.sig)) = true) : (Jvm.Cond.code y bytes mx rt).before a s = true := by
  simp only [Bool.and_eq_true, beq_iff_eq, Bool.not_eq_true', decide_eq_true_eq] at h5
  obtain ⟨⟨⟨⟨⟨g1, g2⟩, g3⟩, g4⟩, g5⟩, g6⟩ := h5
  simp [Cond.before, Cond.holds, Cond.value, h1, h2, h3, h4, g1, g2, g3, g4, g5, g6]
def isCode : Jvm.Cond → Bool
  | .code _ _ _ _ => true
  | _ => false
theorem all_split {L : List Jvm.Cond} {P : Jvm.Cond → Bool} (h1 : L.all (fun c => isCode c || P c) = true) (h2 : ∀ c ∈ L.filter isCode, P c = true) : L.all P = true := by
  refine List.all_eq_true.mpr fun c hc => ?_
  have h := List.all_eq_true.mp h1 c hc
  rcases Bool.eq_false_or_eq_true (isCode c) with hi | hi
  · exact h2 c (List.mem_filter.mpr ⟨hc, hi⟩)
  · simpa [hi] using h
set_option maxRecDepth 65536 in
theorem w_c0 : (Jvm.Cond.code x code maxLocals ret).before args0 about1 = true := code_word (m := ⟨1, 1⟩) (meth := k1m1) (c := k1c1) (by decide +kernel) rfl rfl rfl (by decide +kernel)
set_option maxRecDepth 65536 in
theorem w_c1 : (Jvm.Cond.code ({ cls := "com/example/contesta/contesta/fusion/MethodNamedPinLaw", name := "base", desc := "(I)Ljava/lang/String;" } : Jvm.MethodName) method_3_code (1 : Nat) (Option.some (Jvm.ClassFile.FieldType.object "java/lang/String"))).before args0 about1 = true := code_word (m := ⟨1, 2⟩) (meth := k1m2) (c := k1c2) (by decide +kernel) rfl rfl rfl (by decide +kernel)
set_option maxRecDepth 65536 in
theorem w_c2 : (Jvm.Cond.code ({ cls := "java/lang/String", name := "length", desc := "()I" } : Jvm.MethodName) jdk_42_method_54_code (1 : Nat) (Option.some Jvm.ClassFile.FieldType.int)).before args0 about1 = true := code_word (m := ⟨7, 2⟩) (meth := k7m2) (c := k7c2) (by decide +kernel) rfl rfl rfl (by decide +kernel)
set_option maxRecDepth 65536 in
theorem w_c3 : (Jvm.Cond.code ({ cls := "java/lang/String", name := "coder", desc := "()B" } : Jvm.MethodName) jdk_42_method_152_code (1 : Nat) (Option.some Jvm.ClassFile.FieldType.byte)).before args0 about1 = true := code_word (m := ⟨7, 6⟩) (meth := k7m6) (c := k7c6) (by decide +kernel) rfl rfl rfl (by decide +kernel)
set_option maxRecDepth 65536 in
theorem w_c4 : (Jvm.Cond.code ({ cls := "com/example/contesta/contesta/fusion/MethodNamedPinLaw", name := "at", desc := "(Ljava/lang/String;III)C" } : Jvm.MethodName) method_4_code (4 : Nat) (Option.some Jvm.ClassFile.FieldType.char)).before args0 about1 = true := code_word (m := ⟨1, 3⟩) (meth := k1m3) (c := k1c3) (by decide +kernel) rfl rfl rfl (by decide +kernel)
set_option maxRecDepth 65536 in
theorem w_c5 : (Jvm.Cond.code ({ cls := "java/lang/String", name := "charAt", desc := "(I)C" } : Jvm.MethodName) jdk_42_method_56_code (2 : Nat) (Option.some Jvm.ClassFile.FieldType.char)).before args0 about1 = true := code_word (m := ⟨7, 3⟩) (meth := k7m3) (c := k7c3) (by decide +kernel) rfl rfl rfl (by decide +kernel)
set_option maxRecDepth 65536 in
theorem w_c6 : (Jvm.Cond.code ({ cls := "java/lang/String", name := "isLatin1", desc := "()Z" } : Jvm.MethodName) jdk_42_method_154_code (1 : Nat) (Option.some Jvm.ClassFile.FieldType.boolean)).before args0 about1 = true := code_word (m := ⟨7, 7⟩) (meth := k7m7) (c := k7c7) (by decide +kernel) rfl rfl rfl (by decide +kernel)
set_option maxRecDepth 65536 in
theorem w_c7 : (Jvm.Cond.code ({ cls := "java/lang/StringLatin1", name := "charAt", desc := "([BI)C" } : Jvm.MethodName) jdk_43_method_2_code (2 : Nat) (Option.some Jvm.ClassFile.FieldType.char)).before args0 about1 = true := code_word (m := ⟨8, 1⟩) (meth := k8m1) (c := k8c1) (by decide +kernel) rfl rfl rfl (by decide +kernel)
set_option maxRecDepth 65536 in
theorem w_c8 : (Jvm.Cond.code ({ cls := "java/lang/String", name := "checkIndex", desc := "(II)V" } : Jvm.MethodName) jdk_42_method_155_code (2 : Nat) (Option.none : Option Jvm.ClassFile.FieldType)).before args0 about1 = true := code_word (m := ⟨7, 8⟩) (meth := k7m8) (c := k7c8) (by decide +kernel) rfl rfl rfl (by decide +kernel)
set_option maxRecDepth 65536 in
theorem w_c9 : (Jvm.Cond.code ({ cls := "jdk/internal/util/Preconditions", name := "checkIndex", desc := "(IILjava/util/function/BiFunction;)I" } : Jvm.MethodName) jdk_41_method_11_code (3 : Nat) (Option.some Jvm.ClassFile.FieldType.int)).before args0 about1 = true := code_word (m := ⟨9, 1⟩) (meth := k9m1) (c := k9c1) (by decide +kernel) rfl rfl rfl (by decide +kernel)
set_option maxRecDepth 65536 in
theorem w_c10 : (Jvm.Cond.code ({ cls := "com/example/contesta/contesta/fusion/MethodNamedPinLaw", name := "cut", desc := "([CI)[C" } : Jvm.MethodName) method_5_code (2 : Nat) (Option.some (Jvm.ClassFile.FieldType.array Jvm.ClassFile.FieldType.char))).before args0 about1 = true := code_word (m := ⟨1, 4⟩) (meth := k1m4) (c := k1c4) (by decide +kernel) rfl rfl rfl (by decide +kernel)
set_option maxRecDepth 65536 in
theorem w_c11 : (Jvm.Cond.code ({ cls := "java/lang/String", name := "<init>", desc := "([C)V" } : Jvm.MethodName) jdk_42_method_3_code (2 : Nat) (Option.none : Option Jvm.ClassFile.FieldType)).before args0 about1 = true := code_word (m := ⟨7, 1⟩) (meth := k7m1) (c := k7c1) (by decide +kernel) rfl rfl rfl (by decide +kernel)
set_option maxRecDepth 65536 in
theorem w_c12 : (Jvm.Cond.code ({ cls := "java/lang/String", name := "<init>", desc := "([CIILjava/lang/Void;)V" } : Jvm.MethodName) jdk_42_method_149_code (6 : Nat) (Option.none : Option Jvm.ClassFile.FieldType)).before args0 about1 = true := code_word (m := ⟨7, 5⟩) (meth := k7m5) (c := k7c5) (by decide +kernel) rfl rfl rfl (by decide +kernel)
set_option maxRecDepth 65536 in
theorem w_c13 : (Jvm.Cond.code ({ cls := "java/lang/Object", name := "<init>", desc := "()V" } : Jvm.MethodName) object_method_1_code (1 : Nat) (Option.none : Option Jvm.ClassFile.FieldType)).before args0 about1 = true := code_word (m := ⟨0, 0⟩) (meth := k0m0) (c := k0c0) (by decide +kernel) rfl rfl rfl (by decide +kernel)
set_option maxRecDepth 65536 in
theorem w_c14 : (Jvm.Cond.code ({ cls := "java/lang/StringUTF16", name := "compress", desc := "([CII)[B" } : Jvm.MethodName) jdk_52_method_16_code (6 : Nat) (Option.some (Jvm.ClassFile.FieldType.array Jvm.ClassFile.FieldType.byte))).before args0 about1 = true := code_word (m := ⟨10, 2⟩) (meth := k10m2) (c := k10c2) (by decide +kernel) rfl rfl rfl (by decide +kernel)
set_option maxRecDepth 65536 in
theorem w_c15 : (Jvm.Cond.code ({ cls := "java/lang/StringUTF16", name := "compress", desc := "([CI[BII)I" } : Jvm.MethodName) jdk_52_method_21_code (7 : Nat) (Option.some Jvm.ClassFile.FieldType.int)).before args0 about1 = true := code_word (m := ⟨10, 3⟩) (meth := k10m3) (c := k10c3) (by decide +kernel) rfl rfl rfl (by decide +kernel)
set_option maxRecDepth 65536 in
theorem w_c16 : (Jvm.Cond.code ({ cls := "java/lang/StringUTF16", name := "coderFromArrayLen", desc := "([BI)B" } : Jvm.MethodName) jdk_52_method_15_code (2 : Nat) (Option.some Jvm.ClassFile.FieldType.byte)).before args0 about1 = true := code_word (m := ⟨10, 1⟩) (meth := k10m1) (c := k10c1) (by decide +kernel) rfl rfl rfl (by decide +kernel)
set_option maxRecDepth 65536 in
theorem w_c17 : (Jvm.Cond.code ({ cls := "com/example/contesta/contesta/fusion/Method", name := "named", desc := "(Ljava/lang/String;)Ljava/util/Optional;" } : Jvm.MethodName) prog_16_method_6_code (6 : Nat) (Option.some (Jvm.ClassFile.FieldType.object "java/util/Optional"))).before args0 about1 = true := code_word (m := ⟨12, 1⟩) (meth := k12m1) (c := k12c1) (by decide +kernel) rfl rfl rfl (by decide +kernel)
set_option maxRecDepth 65536 in
theorem w_c18 : (Jvm.Cond.code ({ cls := "java/util/Optional", name := "empty", desc := "()Ljava/util/Optional;" } : Jvm.MethodName) jdk_32_method_1_code (1 : Nat) (Option.some (Jvm.ClassFile.FieldType.object "java/util/Optional"))).before args0 about1 = true := code_word (m := ⟨13, 0⟩) (meth := k13m0) (c := k13c0) (by decide +kernel) rfl rfl rfl (by decide +kernel)
set_option maxRecDepth 65536 in
theorem w_c19 : (Jvm.Cond.code ({ cls := "com/example/contesta/contesta/fusion/Method", name := "values", desc := "()[Lcom/example/contesta/contesta/fusion/Method;" } : Jvm.MethodName) prog_16_method_1_code (0 : Nat) (Option.some (Jvm.ClassFile.FieldType.array (Jvm.ClassFile.FieldType.object "com/example/contesta/contesta/fusion/Method")))).before args0 about1 = true := code_word (m := ⟨12, 0⟩) (meth := k12m0) (c := k12c0) (by decide +kernel) rfl rfl rfl (by decide +kernel)
set_option maxRecDepth 65536 in
theorem w_c20 : (Jvm.Cond.code ({ cls := "java/lang/String", name := "equals", desc := "(Ljava/lang/Object;)Z" } : Jvm.MethodName) jdk_42_method_66_code (3 : Nat) (Option.some Jvm.ClassFile.FieldType.boolean)).before args0 about1 = true := code_word (m := ⟨7, 4⟩) (meth := k7m4) (c := k7c4) (by decide +kernel) rfl rfl rfl (by decide +kernel)
set_option maxRecDepth 65536 in
theorem w_c21 : (Jvm.Cond.code ({ cls := "java/lang/StringLatin1", name := "equals", desc := "([B[B)Z" } : Jvm.MethodName) jdk_43_method_13_code (3 : Nat) (Option.some Jvm.ClassFile.FieldType.boolean)).before args0 about1 = true := code_word (m := ⟨8, 2⟩) (meth := k8m2) (c := k8c2) (by decide +kernel) rfl rfl rfl (by decide +kernel)
set_option maxRecDepth 65536 in
theorem w_c22 : (Jvm.Cond.code ({ cls := "java/util/Optional", name := "orElse", desc := "(Ljava/lang/Object;)Ljava/lang/Object;" } : Jvm.MethodName) jdk_32_method_15_code (2 : Nat) (Option.some (Jvm.ClassFile.FieldType.object "java/lang/Object"))).before args0 about1 = true := code_word (m := ⟨13, 3⟩) (meth := k13m3) (c := k13c3) (by decide +kernel) rfl rfl rfl (by decide +kernel)
set_option maxRecDepth 65536 in
theorem w_c23 : (Jvm.Cond.code ({ cls := "java/util/Optional", name := "of", desc := "(Ljava/lang/Object;)Ljava/util/Optional;" } : Jvm.MethodName) jdk_32_method_3_code (1 : Nat) (Option.some (Jvm.ClassFile.FieldType.object "java/util/Optional"))).before args0 about1 = true := code_word (m := ⟨13, 2⟩) (meth := k13m2) (c := k13c2) (by decide +kernel) rfl rfl rfl (by decide +kernel)
set_option maxRecDepth 65536 in
theorem w_c24 : (Jvm.Cond.code ({ cls := "java/util/Objects", name := "requireNonNull", desc := "(Ljava/lang/Object;)Ljava/lang/Object;" } : Jvm.MethodName) jdk_31_method_10_code (1 : Nat) (Option.some (Jvm.ClassFile.FieldType.object "java/lang/Object"))).before args0 about1 = true := code_word (m := ⟨15, 1⟩) (meth := k15m1) (c := k15c1) (by decide +kernel) rfl rfl rfl (by decide +kernel)
set_option maxRecDepth 65536 in
theorem w_c25 : (Jvm.Cond.code ({ cls := "java/util/Optional", name := "<init>", desc := "(Ljava/lang/Object;)V" } : Jvm.MethodName) jdk_32_method_2_code (2 : Nat) (Option.none : Option Jvm.ClassFile.FieldType)).before args0 about1 = true := code_word (m := ⟨13, 1⟩) (meth := k13m1) (c := k13c1) (by decide +kernel) rfl rfl rfl (by decide +kernel)
def codes1 : List Jvm.Cond := [Jvm.Cond.code x code maxLocals ret, Jvm.Cond.code ({ cls := "com/example/contesta/contesta/fusion/MethodNamedPinLaw", name := "base", desc := "(I)Ljava/lang/String;" } : Jvm.MethodName) method_3_code (1 : Nat) (Option.some (Jvm.ClassFile.FieldType.object "java/lang/String")), Jvm.Cond.code ({ cls := "java/lang/String", name := "length", desc := "()I" } : Jvm.MethodName) jdk_42_method_54_code (1 : Nat) (Option.some Jvm.ClassFile.FieldType.int), Jvm.Cond.code ({ cls := "java/lang/String", name := "coder", desc := "()B" } : Jvm.MethodName) jdk_42_method_152_code (1 : Nat) (Option.some Jvm.ClassFile.FieldType.byte), Jvm.Cond.code ({ cls := "com/example/contesta/contesta/fusion/MethodNamedPinLaw", name := "at", desc := "(Ljava/lang/String;III)C" } : Jvm.MethodName) method_4_code (4 : Nat) (Option.some Jvm.ClassFile.FieldType.char), Jvm.Cond.code ({ cls := "java/lang/String", name := "charAt", desc := "(I)C" } : Jvm.MethodName) jdk_42_method_56_code (2 : Nat) (Option.some Jvm.ClassFile.FieldType.char), Jvm.Cond.code ({ cls := "java/lang/String", name := "isLatin1", desc := "()Z" } : Jvm.MethodName) jdk_42_method_154_code (1 : Nat) (Option.some Jvm.ClassFile.FieldType.boolean), Jvm.Cond.code ({ cls := "java/lang/StringLatin1", name := "charAt", desc := "([BI)C" } : Jvm.MethodName) jdk_43_method_2_code (2 : Nat) (Option.some Jvm.ClassFile.FieldType.char), Jvm.Cond.code ({ cls := "java/lang/String", name := "checkIndex", desc := "(II)V" } : Jvm.MethodName) jdk_42_method_155_code (2 : Nat) (Option.none : Option Jvm.ClassFile.FieldType), Jvm.Cond.code ({ cls := "jdk/internal/util/Preconditions", name := "checkIndex", desc := "(IILjava/util/function/BiFunction;)I" } : Jvm.MethodName) jdk_41_method_11_code (3 : Nat) (Option.some Jvm.ClassFile.FieldType.int), Jvm.Cond.code ({ cls := "com/example/contesta/contesta/fusion/MethodNamedPinLaw", name := "cut", desc := "([CI)[C" } : Jvm.MethodName) method_5_code (2 : Nat) (Option.some (Jvm.ClassFile.FieldType.array Jvm.ClassFile.FieldType.char)), Jvm.Cond.code ({ cls := "java/lang/String", name := "<init>", desc := "([C)V" } : Jvm.MethodName) jdk_42_method_3_code (2 : Nat) (Option.none : Option Jvm.ClassFile.FieldType), Jvm.Cond.code ({ cls := "java/lang/String", name := "<init>", desc := "([CIILjava/lang/Void;)V" } : Jvm.MethodName) jdk_42_method_149_code (6 : Nat) (Option.none : Option Jvm.ClassFile.FieldType), Jvm.Cond.code ({ cls := "java/lang/Object", name := "<init>", desc := "()V" } : Jvm.MethodName) object_method_1_code (1 : Nat) (Option.none : Option Jvm.ClassFile.FieldType), Jvm.Cond.code ({ cls := "java/lang/StringUTF16", name := "compress", desc := "([CII)[B" } : Jvm.MethodName) jdk_52_method_16_code (6 : Nat) (Option.some (Jvm.ClassFile.FieldType.array Jvm.ClassFile.FieldType.byte)), Jvm.Cond.code ({ cls := "java/lang/StringUTF16", name := "compress", desc := "([CI[BII)I" } : Jvm.MethodName) jdk_52_method_21_code (7 : Nat) (Option.some Jvm.ClassFile.FieldType.int), Jvm.Cond.code ({ cls := "java/lang/StringUTF16", name := "coderFromArrayLen", desc := "([BI)B" } : Jvm.MethodName) jdk_52_method_15_code (2 : Nat) (Option.some Jvm.ClassFile.FieldType.byte), Jvm.Cond.code ({ cls := "com/example/contesta/contesta/fusion/Method", name := "named", desc := "(Ljava/lang/String;)Ljava/util/Optional;" } : Jvm.MethodName) prog_16_method_6_code (6 : Nat) (Option.some (Jvm.ClassFile.FieldType.object "java/util/Optional")), Jvm.Cond.code ({ cls := "java/util/Optional", name := "empty", desc := "()Ljava/util/Optional;" } : Jvm.MethodName) jdk_32_method_1_code (1 : Nat) (Option.some (Jvm.ClassFile.FieldType.object "java/util/Optional")), Jvm.Cond.code ({ cls := "com/example/contesta/contesta/fusion/Method", name := "values", desc := "()[Lcom/example/contesta/contesta/fusion/Method;" } : Jvm.MethodName) prog_16_method_1_code (0 : Nat) (Option.some (Jvm.ClassFile.FieldType.array (Jvm.ClassFile.FieldType.object "com/example/contesta/contesta/fusion/Method"))), Jvm.Cond.code ({ cls := "java/lang/String", name := "equals", desc := "(Ljava/lang/Object;)Z" } : Jvm.MethodName) jdk_42_method_66_code (3 : Nat) (Option.some Jvm.ClassFile.FieldType.boolean), Jvm.Cond.code ({ cls := "java/lang/StringLatin1", name := "equals", desc := "([B[B)Z" } : Jvm.MethodName) jdk_43_method_13_code (3 : Nat) (Option.some Jvm.ClassFile.FieldType.boolean), Jvm.Cond.code ({ cls := "java/util/Optional", name := "orElse", desc := "(Ljava/lang/Object;)Ljava/lang/Object;" } : Jvm.MethodName) jdk_32_method_15_code (2 : Nat) (Option.some (Jvm.ClassFile.FieldType.object "java/lang/Object")), Jvm.Cond.code ({ cls := "java/util/Optional", name := "of", desc := "(Ljava/lang/Object;)Ljava/util/Optional;" } : Jvm.MethodName) jdk_32_method_3_code (1 : Nat) (Option.some (Jvm.ClassFile.FieldType.object "java/util/Optional")), Jvm.Cond.code ({ cls := "java/util/Objects", name := "requireNonNull", desc := "(Ljava/lang/Object;)Ljava/lang/Object;" } : Jvm.MethodName) jdk_31_method_10_code (1 : Nat) (Option.some (Jvm.ClassFile.FieldType.object "java/lang/Object")), Jvm.Cond.code ({ cls := "java/util/Optional", name := "<init>", desc := "(Ljava/lang/Object;)V" } : Jvm.MethodName) jdk_32_method_2_code (2 : Nat) (Option.none : Option Jvm.ClassFile.FieldType)]
set_option maxRecDepth 65536 in
theorem codes_eq : words1.filter isCode = codes1 := rfl
theorem w_codes : ∀ c ∈ words1.filter isCode, c.before args0 about1 = true := by
  rw [codes_eq]
  intro c hc
  simp only [codes1, List.mem_cons, List.not_mem_nil, or_false] at hc
  rcases hc with rfl | rfl | rfl | rfl | rfl | rfl | rfl | rfl | rfl | rfl | rfl | rfl | rfl | rfl | rfl | rfl | rfl | rfl | rfl | rfl | rfl | rfl | rfl | rfl | rfl | rfl
  · exact w_c0
  · exact w_c1
  · exact w_c2
  · exact w_c3
  · exact w_c4
  · exact w_c5
  · exact w_c6
  · exact w_c7
  · exact w_c8
  · exact w_c9
  · exact w_c10
  · exact w_c11
  · exact w_c12
  · exact w_c13
  · exact w_c14
  · exact w_c15
  · exact w_c16
  · exact w_c17
  · exact w_c18
  · exact w_c19
  · exact w_c20
  · exact w_c21
  · exact w_c22
  · exact w_c23
  · exact w_c24
  · exact w_c25
set_option maxRecDepth 65536 in
theorem w_t1 : (words1.take 24).all (fun c => isCode c || c.before args0 about1) = true := by decide +kernel
set_option maxRecDepth 65536 in
theorem w_t2 : ((words1.drop 24).take 24).all (fun c => isCode c || c.before args0 about1) = true := by decide +kernel
set_option maxRecDepth 65536 in
theorem w_t3 : (((words1.drop 24).drop 24).take 24).all (fun c => isCode c || c.before args0 about1) = true := by decide +kernel
set_option maxRecDepth 65536 in
theorem w_t4 : ((((words1.drop 24).drop 24).drop 24).take 24).all (fun c => isCode c || c.before args0 about1) = true := by decide +kernel
set_option maxRecDepth 65536 in
theorem w_t5 : (((((words1.drop 24).drop 24).drop 24).drop 24).take 24).all (fun c => isCode c || c.before args0 about1) = true := by decide +kernel
set_option maxRecDepth 65536 in
theorem w_t6 : ((((((words1.drop 24).drop 24).drop 24).drop 24).drop 24).take 24).all (fun c => isCode c || c.before args0 about1) = true := by decide +kernel
set_option maxRecDepth 65536 in
theorem w_t7 : ((((((words1.drop 24).drop 24).drop 24).drop 24).drop 24).drop 24).all (fun c => isCode c || c.before args0 about1) = true := by decide +kernel
theorem w_tables : (allAtoms (Jvm.Cond.code x code maxLocals ret :: tables_1)).before args0 about1 = true := by
  rw [allAtoms_all]
  show words1.all (fun c => c.before args0 about1) = true
  refine all_split ?_ w_codes
  rw [← List.take_append_drop 24 words1, List.all_append, w_t1, ← List.take_append_drop 24 (words1.drop 24), List.all_append, w_t2, ← List.take_append_drop 24 ((words1.drop 24).drop 24), List.all_append, w_t3, ← List.take_append_drop 24 (((words1.drop 24).drop 24).drop 24), List.all_append, w_t4, ← List.take_append_drop 24 ((((words1.drop 24).drop 24).drop 24).drop 24), List.all_append, w_t5, ← List.take_append_drop 24 (((((words1.drop 24).drop 24).drop 24).drop 24).drop 24), List.all_append, w_t6, w_t7]
  rfl
set_option maxRecDepth 65536 in
theorem w_rest : rest_1_c.before args0 about1 = true := by decide +kernel
set_option maxRecDepth 65536 in
theorem w_case : (Jvm.Cond.and given_1 narrow_1).before args0 about1 = true := by decide +kernel
set_option maxRecDepth 65536 in
theorem w_consts : constsHeld consts_1 about1 := Jvm.Lit.constsHeldB_iff.mp (by decide +kernel)
theorem w_applies : (headSpec (Jvm.Cond.code x code maxLocals ret :: tables_1) room_1).applies x e0.platform about1 = true :=
  (Spec.applies_iff w_frames).mpr ⟨w_running, w_runnable, w_alone, w_named, w_hears, w_ripe, w_room, w_tables⟩
theorem atStart : AtStart classFile x code maxLocals ret World_1 tables_1 room_1 Calls_1 rest_1 Pre_1 launch0 p0 e0 about1 theMethod args0 below0 :=
  ⟨lists_1, trivial, launch0.admits_env _ _ _, launch0.least_env, fairChoices_fair.cas, fairChoices_fair.clock, w_frames, w_args, w_heap, w_applies, ⟨w_consts, trivial⟩, w_rest, w_case⟩
end start1
theorem witness_1 : WitnessClaimed_1 := ⟨start1.p0, start1.e0, start1.about1, start1.theMethod, start1.args0, start1.below0, start1.atStart⟩
end Jvm.Pilot.@@N@@
