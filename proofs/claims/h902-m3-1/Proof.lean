import JvmDerived
import JvmDerived.Pilot.@@N@@Statement
import JvmDerived.Pilot.@@N@@Code
set_option linter.unusedVariables false
set_option linter.unusedSimpArgs false
/- laws to paste: Road.backV, Road.chN, Road.lenW, Road.eqW, Road.codOf (cut by pick.py; bodies as the Statement names them) -/
namespace Jvm.Pilot.@@N@@
namespace StrChars
open Jvm Sem ClassFile Op Lib Jvm.Stand Jvm.Free.XT Jvm.Free.ALB Jvm.Free.JM Jvm.Free
open Jvm.Lib.Cold (StaticIs)
/-- a char array whose places are chars -/
def Ch (a : Addr) (A : Cell) (U : State) : Prop := Arr .char a A U ∧ Typed .char A
theorem Ch.mv {a : Addr} {A : Cell} {U U' : State} (h : Ch a A U) (hal : U.vm.Alike U'.vm) (hh : U'.heap = U.heap) : Ch a A U' := ⟨h.1.mv hal hh, h.2⟩
theorem Ch.keep {a : Addr} {A : Cell} {U U' : State} (h : Ch a A U) (hal : U.vm.Alike U'.vm) (hk : U'.heap[a]? = some A) : Ch a A U' := ⟨h.1.keep hal hk, h.2⟩
/-- what place i of a char[]'s cell holds -/
def cv (A : Cell) (i : Nat) : Int32 := match A.slots[i]? with | some (.int x) => x | _ => 0
theorem Ch.get {a : Addr} {A : Cell} {U : State} (h : Ch a A U) {i : Nat} (hi : i < A.slots.size) : A.slots[i]? = some (.int (cv A i)) := by
  have e := Array.getElem?_eq_getElem hi
  have f := h.2 i _ e
  unfold cv; rw [e]
  generalize A.slots[i] = v at f
  cases v <;> simp [fits] at f ⊢
/-- the byte that i2b leaves of a char -/
def lo8 (x : Int32) : Int32 := x.toInt8.toInt32
theorem fits_lo8 (y : Int32) : fits .byte (.int (lo8 y)) = true := by
  have h1 := y.toInt8.le_toInt
  have h2 := y.toInt8.toInt_lt
  simp only [lo8, fits, Bool.and_eq_true, decide_eq_true_eq, Int32.le_iff_toInt_le, Int8.toInt_toInt32, show (-128 : Int32).toInt = -128 from by decide, show (127 : Int32).toInt = 127 from by decide]
  omega
/-- A' is A but that each place j of lo .. hi - 1 holds f j -/
def Laid (A A' : Cell) (lo hi : Nat) (f : Nat → Value) : Prop := A'.cls = A.cls ∧ A'.vm = A.vm ∧ A'.slots.size = A.slots.size ∧ ∀ i, A'.slots[i]? = if lo ≤ i ∧ i < hi then some (f i) else A.slots[i]?
theorem Laid.zero (A : Cell) (lo : Nat) (f : Nat → Value) : Laid A A lo (lo + 0) f := ⟨rfl, rfl, rfl, fun i => by rw [if_neg (by omega)]⟩
theorem Laid.step {A Ak : Cell} {lo k : Nat} {f : Nat → Value} {v : Value} (h : Laid A Ak lo k f) (hlo : lo ≤ k) (hk : k < Ak.slots.size) (hv : v = f k) : Laid A (Ak.setSlot k v) lo (k + 1) f := by
  refine ⟨h.1, h.2.1, by simpa [Cell.setSlot] using h.2.2.1, fun i => ?_⟩
  by_cases e : k = i
  · subst e; rw [Cell.slots_setSlot_self v hk, if_pos (by omega), hv]
  · rw [Cell.slots_setSlot_ne v e, h.2.2.2 i]
    by_cases q : lo ≤ i ∧ i < k
    · rw [if_pos q, if_pos (by omega)]
    · rw [if_neg q, if_neg (by omega)]
def U16 : String := "java/lang/StringUTF16"
namespace Cmp5
def yN : MethodName := ⟨"java/lang/StringUTF16", "compress", "([CI[BII)I"⟩
abbrev yB : ByteArray := jdk_52_method_21_code
theorem d0 : decode yB 0 = .ok (.iconst 0, 1) := by decide +kernel
theorem d1 : decode yB 1 = .ok (.istore 5, 2) := by decide +kernel
theorem d3 : decode yB 3 = .ok (.iload 5, 2) := by decide +kernel
theorem d5 : decode yB 5 = .ok (.iload 4, 2) := by decide +kernel
theorem d7 : decode yB 7 = .ok (.if_icmp (.ge) 37, 3) := by decide +kernel
theorem d10 : decode yB 10 = .ok (.aload_n 0, 1) := by decide +kernel
theorem d11 : decode yB 11 = .ok (.iload_n 1, 1) := by decide +kernel
theorem d12 : decode yB 12 = .ok (.caload, 1) := by decide +kernel
theorem d13 : decode yB 13 = .ok (.istore 6, 2) := by decide +kernel
theorem d15 : decode yB 15 = .ok (.iload 6, 2) := by decide +kernel
theorem d17 : decode yB 17 = .ok (.sipush 255, 3) := by decide +kernel
theorem d20 : decode yB 20 = .ok (.if_icmp (.le) 6, 3) := by decide +kernel
theorem d26 : decode yB 26 = .ok (.aload_n 2, 1) := by decide +kernel
theorem d27 : decode yB 27 = .ok (.iload_n 3, 1) := by decide +kernel
theorem d28 : decode yB 28 = .ok (.iload 6, 2) := by decide +kernel
theorem d30 : decode yB 30 = .ok (.i2b, 1) := by decide +kernel
theorem d31 : decode yB 31 = .ok (.bastore, 1) := by decide +kernel
theorem d32 : decode yB 32 = .ok (.iinc 1 1, 3) := by decide +kernel
theorem d35 : decode yB 35 = .ok (.iinc 3 1, 3) := by decide +kernel
theorem d38 : decode yB 38 = .ok (.iinc 5 1, 3) := by decide +kernel
theorem d41 : decode yB 41 = .ok (.goto (-38), 3) := by decide +kernel
theorem d44 : decode yB 44 = .ok (.iload 4, 2) := by decide +kernel
theorem d46 : decode yB 46 = .ok (.ireturn, 1) := by decide +kernel
def site : List Cond := []
def tab : Cond := tabOf yN yB 7 (some .int) site
def P (b : Addr) (A : Cell) (d : Addr) (B : Cell) (o q len : Nat) (args : Array Value) (s : State) : Prop := args = #[.ref b, .int (Int32.ofNat o), .ref d, .int (Int32.ofNat q), .int (Int32.ofNat len)] ∧ Ch b A s ∧ Arr .byte d B s ∧ b ≠ d ∧ o + len ≤ A.slots.size ∧ q + len ≤ B.slots.size ∧ ∀ i, i < len → ¬ 255 < cv A (o + i)
def E (b : Addr) (A : Cell) (d : Addr) (B : Cell) (o q len : Nat) (r : Option Value) (s u : State) : Prop := r = some (.int (Int32.ofNat len)) ∧ ∃ B', Put d B' s u ∧ Laid B B' q (q + len) (fun j => Value.int (lo8 (cv A (o + (j - q)))))
/-- no char of the range above 255: len; the places written hold each char's low byte -/
theorem law (l : Launch) (b : Addr) (A : Cell) (d : Addr) (B : Cell) (o q len : Nat) : Law l yN 5 5 0 0 yB 7 (some .int) site (P b A d B o q len) (E b A d B o q len) (copyLocs d q len) 0 0 := by
  refine Law.of_walk (plainFor_of_name (by decide +kernel)) (by decide +kernel) (by decide +kernel) (by decide) (fun _ _ h => by rw [h.1]; rfl) (fun _ U U' hal hh h => ⟨h.1, h.2.1.mv hal hh, h.2.2.1.mv hal hh, h.2.2.2⟩) (fun r U U' V V' h1 hal h2 h => ⟨h.1, h.2.elim fun B' q => ⟨B', q.1.mv h1 h2, q.2⟩⟩) ?_
  intro p e s m args below meth c s₁ X0 hexec hbytes hml hret hlk hnm hown hh0 W hP
  obtain ⟨rfl, hA, hB, hne, l1, l2, hp⟩ := hP
  have c1 : Steps p.tables e below (s₁.setTop (entryFrame m #[.ref b, .int (Int32.ofNat o), .ref d, .int (Int32.ofNat q), .int (Int32.ofNat len)] 7)) (s₁.setTop (mkF m 0 #[.val (.ref b), .val (.int (Int32.ofNat o)), .val (.ref d), .val (.int (Int32.ofNat q)), .val (.int (Int32.ofNat len)), .unset, .unset] [])) := entry rfl
  have hA0 := hA.1.mv X0.warmed.alike hh0
  have hB0 := hB.mv X0.warmed.alike hh0
  have a31 := hA.1.2.2.2
  have c2 : Steps p.tables e below (s₁.setTop (entryFrame m #[.ref b, .int (Int32.ofNat o), .ref d, .int (Int32.ofNat q), .int (Int32.ofNat len)] 7)) (s₁.setTop (mkF m 3 #[.val (.ref b), .val (.int (Int32.ofNat o)), .val (.ref d), .val (.int (Int32.ofNat q)), .val (.int (Int32.ofNat len)), .val (.int 0), .unset] [])) := c1.trans (by
    refine iconstV X0.here hexec rfl 0 (hb hbytes d0) (by decide) ?_
    refine XS.istore X0.here hexec rfl (hb hbytes d1) rfl rfl ?_
    exact Steps.refl _)
  have loop : ∀ (r i : Nat), i + r = len → ∀ (z : Slot), (z = .unset ∨ ∃ w, z = .val w ∧ w.category = 1) → ∀ (Tl : State) (Bk : Cell), Stand p l e { frames := 0, locals := 0, cells := 0, slots := 0 } s m #[.ref b, .int (Int32.ofNat o), .ref d, .int (Int32.ofNat q), .int (Int32.ofNat len)] below meth c Tl ([] ++ copyLocs d q i) 0 0 → Put d Bk s₁ Tl → Laid B Bk q (q + i) (fun j => Value.int (lo8 (cv A (o + (j - q))))) →
      Steps p.tables e below (s₁.setTop (entryFrame m #[.ref b, .int (Int32.ofNat o), .ref d, .int (Int32.ofNat q), .int (Int32.ofNat len)] 7)) (Tl.setTop (mkF m 3 #[.val (.ref b), .val (.int (Int32.ofNat (o + i))), .val (.ref d), .val (.int (Int32.ofNat (q + i))), .val (.int (Int32.ofNat len)), .val (.int (Int32.ofNat i)), z] [])) → ∃ (T' : State) (B' : Cell) (z' : Slot), Stand p l e { frames := 0, locals := 0, cells := 0, slots := 0 } s m #[.ref b, .int (Int32.ofNat o), .ref d, .int (Int32.ofNat q), .int (Int32.ofNat len)] below meth c T' ([] ++ copyLocs d q len) 0 0 ∧ Put d B' s₁ T' ∧ Laid B B' q (q + len) (fun j => Value.int (lo8 (cv A (o + (j - q))))) ∧
      Steps p.tables e below (s₁.setTop (entryFrame m #[.ref b, .int (Int32.ofNat o), .ref d, .int (Int32.ofNat q), .int (Int32.ofNat len)] 7)) (T'.setTop (mkF m 3 #[.val (.ref b), .val (.int (Int32.ofNat (o + len))), .val (.ref d), .val (.int (Int32.ofNat (q + len))), .val (.int (Int32.ofNat len)), .val (.int (Int32.ofNat len)), z'] [])) := by
    intro r
    induction r with
    | zero =>
      intro i hi z hz Tl Bk Xl pl fl cl
      have hil : i = len := by omega
      rw [hil] at Xl fl cl
      exact ⟨Tl, Bk, z, Xl, pl, fl, cl⟩
    | succ r ih =>
      intro i hi z hz Tl Bk Xl pl fl cl
      have all := X0.warmed.alike.symm.trans Xl.warmed.alike
      have hAl := hA0.keep all (pl.other hne hA0.1)
      have hBk := hB0.like all pl.1 fl.1 fl.2.1 fl.2.2.1
      have hlt : q + i < Bk.slots.size := by rw [fl.2.2.1]; omega
      have c3 : Steps p.tables e below (s₁.setTop (entryFrame m #[.ref b, .int (Int32.ofNat o), .ref d, .int (Int32.ofNat q), .int (Int32.ofNat len)] 7)) (Tl.setTop (mkF m 12 #[.val (.ref b), .val (.int (Int32.ofNat (o + i))), .val (.ref d), .val (.int (Int32.ofNat (q + i))), .val (.int (Int32.ofNat len)), .val (.int (Int32.ofNat i)), z] [.int (Int32.ofNat (o + i)), .ref b])) := cl.trans (by
        refine XS.iload Xl.here hexec rfl (hb hbytes d3) rfl ?_
        refine XS.iload Xl.here hexec rfl (hb hbytes d5) rfl ?_
        refine XS.icmpNo Xl.here hexec rfl (hb hbytes d7) rfl (ii_ge_f (lt32 (by omega) (by omega))) ?_
        refine XS.aloadN Xl.here hexec rfl (hb hbytes d10) rfl rfl ?_
        refine XS.iloadN Xl.here hexec rfl (hb hbytes d11) rfl ?_
        exact Steps.refl _)
      have c4 : Steps p.tables e below (s₁.setTop (entryFrame m #[.ref b, .int (Int32.ofNat o), .ref d, .int (Int32.ofNat q), .int (Int32.ofNat len)] 7)) (Tl.setTop (mkF m 13 #[.val (.ref b), .val (.int (Int32.ofNat (o + i))), .val (.ref d), .val (.int (Int32.ofNat (q + i))), .val (.int (Int32.ofNat len)), .val (.int (Int32.ofNat i)), z] [.int (cv A (o + i))])) := c3.trans (by
        refine Xl.aget hexec hAl rfl (hA.get (i := o + i) (by omega)) rfl rfl (hb hbytes d12) ?_
        exact Steps.refl _)
      have c5 : Steps p.tables e below (s₁.setTop (entryFrame m #[.ref b, .int (Int32.ofNat o), .ref d, .int (Int32.ofNat q), .int (Int32.ofNat len)] 7)) (Tl.setTop (mkF m 15 #[.val (.ref b), .val (.int (Int32.ofNat (o + i))), .val (.ref d), .val (.int (Int32.ofNat (q + i))), .val (.int (Int32.ofNat len)), .val (.int (Int32.ofNat i)), .val (.int (cv A (o + i)))] [])) := c4.trans (by
        refine XS.istoreS Xl.here hexec rfl (hb hbytes d13) rfl rfl hz ?_
        exact Steps.refl _)
      have c6 : Steps p.tables e below (s₁.setTop (entryFrame m #[.ref b, .int (Int32.ofNat o), .ref d, .int (Int32.ofNat q), .int (Int32.ofNat len)] 7)) (Tl.setTop (mkF m 31 #[.val (.ref b), .val (.int (Int32.ofNat (o + i))), .val (.ref d), .val (.int (Int32.ofNat (q + i))), .val (.int (Int32.ofNat len)), .val (.int (Int32.ofNat i)), .val (.int (cv A (o + i)))] [.int (lo8 (cv A (o + i))), .int (Int32.ofNat (q + i)), .ref d])) := c5.trans (by
        refine XS.iload Xl.here hexec rfl (hb hbytes d15) rfl ?_
        refine sipushV Xl.here hexec rfl 255 (hb hbytes d17) (by decide) ?_
        refine XS.icmpYes Xl.here hexec rfl (pc0 := 20) rfl (hb hbytes d20) rfl (ii_le_t (hp i (by omega))) (by decide) rfl ?_
        refine XS.aloadN Xl.here hexec rfl (hb hbytes d26) rfl rfl ?_
        refine XS.iloadN Xl.here hexec rfl (hb hbytes d27) rfl ?_
        refine XS.iload Xl.here hexec rfl (hb hbytes d28) rfl ?_
        refine i2b Xl.here hexec rfl (hb hbytes d30) rfl ?_
        exact Steps.refl _)
      obtain ⟨T7, X7, p7, st7⟩ := Xl.aput hexec hBk rfl hlt rfl (fits_lo8 (cv A (o + i))) (g := (mkF m 31 #[.val (.ref b), .val (.int (Int32.ofNat (o + i))), .val (.ref d), .val (.int (Int32.ofNat (q + i))), .val (.int (Int32.ofNat len)), .val (.int (Int32.ofNat i)), .val (.int (cv A (o + i)))] [.int (lo8 (cv A (o + i))), .int (Int32.ofNat (q + i)), .ref d])) rfl (rest := []) rfl (hb hbytes d31)
      have c8 : Steps p.tables e below (s₁.setTop (entryFrame m #[.ref b, .int (Int32.ofNat o), .ref d, .int (Int32.ofNat q), .int (Int32.ofNat len)] 7)) (T7.setTop (mkF m 32 #[.val (.ref b), .val (.int (Int32.ofNat (o + i))), .val (.ref d), .val (.int (Int32.ofNat (q + i))), .val (.int (Int32.ofNat len)), .val (.int (Int32.ofNat i)), .val (.int (cv A (o + i)))] [])) := c6.trans (st7 _ (Steps.refl _))
      have c9 : Steps p.tables e below (s₁.setTop (entryFrame m #[.ref b, .int (Int32.ofNat o), .ref d, .int (Int32.ofNat q), .int (Int32.ofNat len)] 7)) (T7.setTop (mkF m 3 #[.val (.ref b), .val (.int (Int32.ofNat (o + i) + 1)), .val (.ref d), .val (.int (Int32.ofNat (q + i) + 1)), .val (.int (Int32.ofNat len)), .val (.int (Int32.ofNat i + 1)), .val (.int (cv A (o + i)))] [])) := c8.trans (by
        refine iincV X7.here hexec rfl 1 (hb hbytes d32) (by decide) rfl rfl ?_
        refine iincV X7.here hexec rfl 1 (hb hbytes d35) (by decide) rfl rfl ?_
        refine iincV X7.here hexec rfl 1 (hb hbytes d38) (by decide) rfl rfl ?_
        refine XS.goto X7.here hexec rfl (pc0 := 41) rfl (hb hbytes d41) (by decide) rfl ?_
        exact Steps.refl _)
      have c10 : Steps p.tables e below (s₁.setTop (entryFrame m #[.ref b, .int (Int32.ofNat o), .ref d, .int (Int32.ofNat q), .int (Int32.ofNat len)] 7)) (T7.setTop (mkF m 3 #[.val (.ref b), .val (.int (Int32.ofNat (o + (i + 1)))), .val (.ref d), .val (.int (Int32.ofNat (q + (i + 1)))), .val (.int (Int32.ofNat len)), .val (.int (Int32.ofNat (i + 1))), .val (.int (cv A (o + i)))] [])) := by
        have := c9
        rw [succ32, succ32, succ32] at this
        exact this
      exact ih (i + 1) (by omega) _ (Or.inr ⟨_, rfl, rfl⟩) T7 _ (by rw [copyLocs_step, ← List.append_assoc]; exact X7) (pl.trans p7) (fl.step (by omega) hlt (by simp)) c10
  obtain ⟨T9, B9, z9, X9, p9, f9, g9⟩ := loop len 0 (by omega) .unset (Or.inl rfl) s₁ B (by simpa [copyLocs] using X0) ⟨hB0.1, fun _ _ => rfl, rfl⟩ (Laid.zero _ _ _) c2
  have c11 : Steps p.tables e below (s₁.setTop (entryFrame m #[.ref b, .int (Int32.ofNat o), .ref d, .int (Int32.ofNat q), .int (Int32.ofNat len)] 7)) (T9.setTop (mkF m 46 #[.val (.ref b), .val (.int (Int32.ofNat (o + len))), .val (.ref d), .val (.int (Int32.ofNat (q + len))), .val (.int (Int32.ofNat len)), .val (.int (Int32.ofNat len)), z9] [.int (Int32.ofNat len)])) := g9.trans (by
    refine XS.iload X9.here hexec rfl (hb hbytes d3) rfl ?_
    refine XS.iload X9.here hexec rfl (hb hbytes d5) rfl ?_
    refine XS.icmpYes X9.here hexec rfl (pc0 := 7) rfl (hb hbytes d7) rfl (ii_ge_t (nlt32 (by omega) (Nat.le_refl _))) (by decide) rfl ?_
    refine XS.iload X9.here hexec rfl (hb hbytes d44) rfl ?_
    exact Steps.refl _)
  exact ⟨T9, some (.int (Int32.ofNat len)), _, _, _, X9, by simp, rfl, rfl, (fun h => by cases h), ⟨rfl, B9, p9.from hh0, f9⟩, fun fs hl => c11.trans (X9.ireturnOut hexec hret rfl (Or.inl rfl) (hb hbytes d46) hl)⟩
end Cmp5
namespace Cmp3
def yN : MethodName := ⟨"java/lang/StringUTF16", "compress", "([CII)[B"⟩
abbrev yB : ByteArray := jdk_52_method_16_code
theorem d0 : decode yB 0 = .ok (.iload_n 2, 1) := by decide +kernel
theorem d1 : decode yB 1 = .ok (.newarray .byte, 2) := by decide +kernel
theorem d3 : decode yB 3 = .ok (.astore_n 3, 1) := by decide +kernel
theorem d4 : decode yB 4 = .ok (.aload_n 0, 1) := by decide +kernel
theorem d5 : decode yB 5 = .ok (.iload_n 1, 1) := by decide +kernel
theorem d6 : decode yB 6 = .ok (.aload_n 3, 1) := by decide +kernel
theorem d7 : decode yB 7 = .ok (.iconst 0, 1) := by decide +kernel
theorem d8 : decode yB 8 = .ok (.iload_n 2, 1) := by decide +kernel
theorem d9 : decode yB 9 = .ok (.invokestatic 115, 3) := by decide +kernel
theorem d12 : decode yB 12 = .ok (.istore 4, 2) := by decide +kernel
theorem d14 : decode yB 14 = .ok (.iload 4, 2) := by decide +kernel
theorem d16 : decode yB 16 = .ok (.iload_n 2, 1) := by decide +kernel
theorem d17 : decode yB 17 = .ok (.if_icmp (.eq) 40, 3) := by decide +kernel
theorem d57 : decode yB 57 = .ok (.aload_n 3, 1) := by decide +kernel
theorem d58 : decode yB 58 = .ok (.areturn, 1) := by decide +kernel
def site : List Cond := [.arrayClass .byte, Cmp5.tab] ++ staticW U16 115 Cmp5.yN
def tab : Cond := tabOf yN yB 6 (some (.array .byte)) site
def P (b : Addr) (A : Cell) (o len : Nat) (args : Array Value) (s : State) : Prop := args = #[.ref b, .int (Int32.ofNat o), .int (Int32.ofNat len)] ∧ Ch b A s ∧ o + len ≤ A.slots.size ∧ len ≤ 536870912 ∧ ∀ i, i < len → ¬ 255 < cv A (o + i)
def E (b : Addr) (A : Cell) (o len : Nat) (r : Option Value) (s u : State) : Prop := NewArr .byte "[B" len (fun j => .int (lo8 (cv A (o + j)))) r s u ∧ u.heap.size = s.heap.size + 1
/-- no char of the range above 255: a new byte[] of their low bytes -/
theorem law (l : Launch) (b : Addr) (A : Cell) (o len : Nat) : Law l yN 3 3 1 18 yB 6 (some (.array .byte)) site (P b A o len) (E b A o len) [] 1 len := by
  refine Law.of_walk (plainFor_of_name (by decide +kernel)) (by decide +kernel) (by decide +kernel) (by decide) (fun _ _ h => by rw [h.1]; rfl) (fun _ U U' hal hh h => ⟨h.1, h.2.1.mv hal hh, h.2.2⟩) (fun r U U' V V' h1 hal h2 h => ⟨NewArr.mv r U U' V V' h1 hal h2 h.1, by rw [h1, h2]; exact h.2⟩) ?_
  intro p e s m args below meth c s₁ X0 hexec hbytes hml hret hlk hnm hown hh0 W hP
  obtain ⟨rfl, hA, l1, l2, hp⟩ := hP
  have a31 := hA.1.2.2.2
  have c1 : Steps p.tables e below (s₁.setTop (entryFrame m #[.ref b, .int (Int32.ofNat o), .int (Int32.ofNat len)] 6)) (s₁.setTop (mkF m 0 #[.val (.ref b), .val (.int (Int32.ofNat o)), .val (.int (Int32.ofNat len)), .unset, .unset, .unset] [])) := entry rfl
  have c2 : Steps p.tables e below (s₁.setTop (entryFrame m #[.ref b, .int (Int32.ofNat o), .int (Int32.ofNat len)] 6)) (s₁.setTop (mkF m 1 #[.val (.ref b), .val (.int (Int32.ofNat o)), .val (.int (Int32.ofNat len)), .unset, .unset, .unset] [.int (Int32.ofNat len)])) := c1.trans (by
    refine XS.iloadN X0.here hexec rfl (hb hbytes d0) rfl ?_
    exact Steps.refl _)
  obtain ⟨T3, B3, X3, ba3, bs3, bv3, bh3, bf3, st3⟩ := X0.anew hexec (atype := .byte) (wk W (.arrayClass .byte)) rfl (by show len * 1 ≤ _; omega) (by omega) (g := (mkF m 1 #[.val (.ref b), .val (.int (Int32.ofNat o)), .val (.int (Int32.ofNat len)), .unset, .unset, .unset] [.int (Int32.ofNat len)])) rfl (hb hbytes d1) (rest := []) rfl (Nat.le_refl _) (by show 0 + len ≤ len; omega)
  rw [hh0] at ba3 st3
  have kp3 : XT.Kept s T3 := (XT.Kept.of_eq hh0).push bh3
  have hA3 := hA.keep X3.warmed.alike (kp3 _ _ hA.1.1)
  have hne : b ≠ s.heap.size := hA.1.ne
  have c4 : Steps p.tables e below (s₁.setTop (entryFrame m #[.ref b, .int (Int32.ofNat o), .int (Int32.ofNat len)] 6)) (T3.setTop (mkF m 3 #[.val (.ref b), .val (.int (Int32.ofNat o)), .val (.int (Int32.ofNat len)), .unset, .unset, .unset] [.ref s.heap.size])) := c2.trans (st3 _ (Steps.refl _))
  have c5 : Steps p.tables e below (s₁.setTop (entryFrame m #[.ref b, .int (Int32.ofNat o), .int (Int32.ofNat len)] 6)) (T3.setTop (mkF m 9 #[.val (.ref b), .val (.int (Int32.ofNat o)), .val (.int (Int32.ofNat len)), .val (.ref s.heap.size), .unset, .unset] [.int (Int32.ofNat len), .int 0, .ref s.heap.size, .int (Int32.ofNat o), .ref b])) := c4.trans (by
    refine XS.astoreN X3.here hexec rfl (hb hbytes d3) rfl rfl rfl ?_
    refine XS.aloadN X3.here hexec rfl (hb hbytes d4) rfl rfl ?_
    refine XS.iloadN X3.here hexec rfl (hb hbytes d5) rfl ?_
    refine XS.aloadN X3.here hexec rfl (hb hbytes d6) rfl rfl ?_
    refine iconstV X3.here hexec rfl 0 (hb hbytes d7) (by decide) ?_
    refine XS.iloadN X3.here hexec rfl (hb hbytes d8) rfl ?_
    exact Steps.refl _)
  obtain ⟨v6, T6, X6, E6, g6⟩ := X3.callS hexec (Cmp5.law l b A s.heap.size B3 o 0 len) hown (wks W (staticW U16 115 Cmp5.yN)) (wk W Cmp5.tab) (W := 0) (Nat.le_of_ble_eq_true rfl) (Nat.le_of_ble_eq_true rfl) (Nat.le_refl _) (by show 0 + len + 0 ≤ len; omega) (g := (mkF m 9 #[.val (.ref b), .val (.int (Int32.ofNat o)), .val (.int (Int32.ofNat len)), .val (.ref s.heap.size), .unset, .unset] [.int (Int32.ofNat len), .int (Int32.ofNat 0), .ref s.heap.size, .int (Int32.ofNat o), .ref b])) rfl (by rw [hml]; rfl) c5 (argsL := [.ref b, .int (Int32.ofNat o), .ref s.heap.size, .int (Int32.ofNat 0), .int (Int32.ofNat len)]) (rest := []) rfl rfl (by show 2 * 0 + 0 ≤ _; decide) (hb hbytes d9) (⟨rfl, hA3, ba3, hne, l1, by rw [bs3]; simp, hp⟩)
  obtain ⟨rfl, B6, p6, f6⟩ := E6
  have c7 : Steps p.tables e below (s₁.setTop (entryFrame m #[.ref b, .int (Int32.ofNat o), .int (Int32.ofNat len)] 6)) (T6.setTop (mkF m 12 #[.val (.ref b), .val (.int (Int32.ofNat o)), .val (.int (Int32.ofNat len)), .val (.ref s.heap.size), .unset, .unset] [.int (Int32.ofNat len)])) := g6
  have c8 : Steps p.tables e below (s₁.setTop (entryFrame m #[.ref b, .int (Int32.ofNat o), .int (Int32.ofNat len)] 6)) (T6.setTop (mkF m 58 #[.val (.ref b), .val (.int (Int32.ofNat o)), .val (.int (Int32.ofNat len)), .val (.ref s.heap.size), .val (.int (Int32.ofNat len)), .unset] [.ref s.heap.size])) := c7.trans (by
    refine XS.istore X6.here hexec rfl (hb hbytes d12) rfl rfl ?_
    refine XS.iload X6.here hexec rfl (hb hbytes d14) rfl ?_
    refine XS.iloadN X6.here hexec rfl (hb hbytes d16) rfl ?_
    refine XS.icmpYes X6.here hexec rfl (pc0 := 17) rfl (hb hbytes d17) rfl (ii_eq_t rfl) (by decide) rfl ?_
    refine XS.aloadN X6.here hexec rfl (hb hbytes d57) rfl rfl ?_
    exact Steps.refl _)
  have X8 := X6.wide (L' := []) (cells' := 1) (slots' := len) (fun x hx hlt => by
    simp only [List.nil_append, copyLocs, List.mem_map, List.mem_range] at hx
    obtain ⟨i, -, rfl⟩ := hx
    exact absurd hlt (Nat.lt_irrefl _)) (Nat.le_refl _) (by omega)
  exact ⟨T6, some (.ref s.heap.size), _, _, _, X8, rfl, rfl, rfl, (fun h => by cases h), ⟨⟨rfl, B6, ba3.like (X3.warmed.alike.symm.trans X6.warmed.alike) p6.1 f6.1 f6.2.1 f6.2.2.1, f6.2.1.trans bv3, by rw [X6.warmed.alike.findClass, f6.1]; exact bf3, by rw [f6.2.2.1, bs3]; simp, fun j hj => by rw [f6.2.2.2 j, if_pos (by omega)]; rfl, kp3.put p6 (Nat.le_refl _)⟩, by rw [p6.2.2, bh3, hh0]; simp⟩, fun fs hl => c8.trans (X8.areturnOut hexec rfl hret rfl (hb hbytes d58) hl)⟩
end Cmp3
namespace CodL
def yN : MethodName := ⟨"java/lang/StringUTF16", "coderFromArrayLen", "([BI)B"⟩
abbrev yB : ByteArray := jdk_52_method_15_code
theorem d0 : decode yB 0 = .ok (.iload_n 1, 1) := by decide +kernel
theorem d1 : decode yB 1 = .ok (.aload_n 0, 1) := by decide +kernel
theorem d2 : decode yB 2 = .ok (.arraylength, 1) := by decide +kernel
theorem d3 : decode yB 3 = .ok (.isub, 1) := by decide +kernel
theorem d4 : decode yB 4 = .ok (.bipush 31, 2) := by decide +kernel
theorem d6 : decode yB 6 = .ok (.iushr, 1) := by decide +kernel
theorem d7 : decode yB 7 = .ok (.i2b, 1) := by decide +kernel
theorem d8 : decode yB 8 = .ok (.ireturn, 1) := by decide +kernel
def site : List Cond := []
def tab : Cond := tabOf yN yB 2 (some .byte) site
def P (d : Addr) (B : Cell) (args : Array Value) (s : State) : Prop := args = #[.ref d, .int (Int32.ofNat B.slots.size)] ∧ Arr .byte d B s
def E (r : Option Value) (s u : State) : Prop := XT.PureE (some (.int 0)) r s u
/-- an array as long as the number of chars: LATIN1 -/
theorem law (l : Launch) (d : Addr) (B : Cell) : Law l yN 2 2 0 0 yB 2 (some .byte) site (P d B) E [] 0 0 := by
  refine Law.of_walk (plainFor_of_name (by decide +kernel)) (by decide +kernel) (by decide +kernel) (by decide) (fun _ _ h => by rw [h.1]; rfl) (fun _ U U' hal hh h => ⟨h.1, h.2.mv hal hh⟩) (fun r U U' V V' h1 hal h2 h => XT.PureE.mv r U U' V V' h1 hal h2 h) ?_
  intro p e s m args below meth c s₁ X0 hexec hbytes hml hret hlk hnm hown hh0 W hP
  obtain ⟨rfl, hB⟩ := hP
  have hB0 := hB.mv X0.warmed.alike hh0
  have c1 : Steps p.tables e below (s₁.setTop (entryFrame m #[.ref d, .int (Int32.ofNat B.slots.size)] 2)) (s₁.setTop (mkF m 0 #[.val (.ref d), .val (.int (Int32.ofNat B.slots.size))] [])) := entry rfl
  have c2 : Steps p.tables e below (s₁.setTop (entryFrame m #[.ref d, .int (Int32.ofNat B.slots.size)] 2)) (s₁.setTop (mkF m 2 #[.val (.ref d), .val (.int (Int32.ofNat B.slots.size))] [.ref d, .int (Int32.ofNat B.slots.size)])) := c1.trans (by
    refine XS.iloadN X0.here hexec rfl (hb hbytes d0) rfl ?_
    refine XS.aloadN X0.here hexec rfl (hb hbytes d1) rfl rfl ?_
    exact Steps.refl _)
  have c3 : Steps p.tables e below (s₁.setTop (entryFrame m #[.ref d, .int (Int32.ofNat B.slots.size)] 2)) (s₁.setTop (mkF m 8 #[.val (.ref d), .val (.int (Int32.ofNat B.slots.size))] [.int (lo8 (ushr (Int32.ofNat B.slots.size - Int32.ofNat B.slots.size) 31))])) := c2.trans (by
    refine X0.alen hexec hB0 rfl rfl (hb hbytes d2) ?_
    refine XS.isub X0.here hexec rfl (hb hbytes d3) rfl ?_
    refine bipushV X0.here hexec rfl 31 (hb hbytes d4) (by decide) ?_
    refine iushr X0.here hexec rfl (hb hbytes d6) rfl ?_
    refine i2b X0.here hexec rfl (hb hbytes d7) rfl ?_
    exact Steps.refl _)
  have e0 : lo8 (ushr (Int32.ofNat B.slots.size - Int32.ofNat B.slots.size) 31) = 0 := by rw [Int32.sub_self]; decide
  rw [e0] at c3
  exact ⟨s₁, some (.int 0), _, _, _, X0, rfl, rfl, rfl, (fun h => by cases h), ⟨rfl, hh0⟩, fun fs hl => c3.trans (X0.ireturnOut hexec hret rfl (Or.inr (Or.inr (Or.inl rfl))) (hb hbytes d8) hl)⟩
end CodL
/-- the String at a is Latin-1 over a new byte[] (the heap's one new cell): the low bytes of the len chars of A from o on; every cell but a is kept -/
def Got (a : Addr) (D : Cell) (fV fC : Field) (A : Cell) (o len : Nat) (r : Option Value) (s u : State) : Prop := r = none ∧ ∃ D' V : Cell, Blank "java/lang/String" a D' u ∧ Same D D' [fV.slot, fC.slot] ∧ D'.slots[fV.slot]? = some (.ref s.heap.size) ∧ D'.slots[fC.slot]? = some (.int 0) ∧ Arr .byte s.heap.size V u ∧ V.vm = .none ∧ u.vm.findClass "[B" = some V.cls ∧ V.slots.size = len ∧ (∀ j, j < len → V.slots[j]? = some (.int (lo8 (cv A (o + j))))) ∧ (∀ (y : Addr) (c : Cell), y ≠ a → s.heap[y]? = some c → u.heap[y]? = some c) ∧ u.heap.size = s.heap.size + 1
theorem Got.mv {a : Addr} {D A : Cell} {fV fC : Field} {o len : Nat} : ∀ r (U U' V V' : State), U'.heap = U.heap → V.vm.Alike V'.vm → V'.heap = V.heap → Got a D fV fC A o len r U V → Got a D fV fC A o len r U' V' :=
  fun r U U' V V' h1 hal h2 ⟨e0, D', X, a1, a2, a3, a4, a5, a6, a7, a8, a9, a10, a11⟩ => ⟨e0, D', X, a1.mv hal h2, a2, by rw [h1]; exact a3, a4, by rw [h1]; exact a5.mv hal h2, a6, by rw [hal.findClass]; exact a7, a8, a9, by rw [h1, h2]; exact a10, by rw [h1, h2]; exact a11⟩
namespace New4
def yN : MethodName := ⟨"java/lang/String", "<init>", "([CIILjava/lang/Void;)V"⟩
abbrev yB : ByteArray := jdk_42_method_149_code
theorem d0 : decode yB 0 = .ok (.aload_n 0, 1) := by decide +kernel
theorem d1 : decode yB 1 = .ok (.invokespecial 1, 3) := by decide +kernel
theorem d4 : decode yB 4 = .ok (.iload_n 3, 1) := by decide +kernel
theorem d5 : decode yB 5 = .ok (.ifCond (.ne) 22, 3) := by decide +kernel
theorem d27 : decode yB 27 = .ok (.getstatic 38, 3) := by decide +kernel
theorem d30 : decode yB 30 = .ok (.ifCond (.eq) 28, 3) := by decide +kernel
theorem d33 : decode yB 33 = .ok (.aload_n 1, 1) := by decide +kernel
theorem d34 : decode yB 34 = .ok (.iload_n 2, 1) := by decide +kernel
theorem d35 : decode yB 35 = .ok (.iload_n 3, 1) := by decide +kernel
theorem d36 : decode yB 36 = .ok (.invokestatic 177, 3) := by decide +kernel
theorem d39 : decode yB 39 = .ok (.astore 5, 2) := by decide +kernel
theorem d41 : decode yB 41 = .ok (.aload_n 0, 1) := by decide +kernel
theorem d42 : decode yB 42 = .ok (.aload 5, 2) := by decide +kernel
theorem d44 : decode yB 44 = .ok (.iload_n 3, 1) := by decide +kernel
theorem d45 : decode yB 45 = .ok (.invokestatic 47, 3) := by decide +kernel
theorem d48 : decode yB 48 = .ok (.putfield 15, 3) := by decide +kernel
theorem d51 : decode yB 51 = .ok (.aload_n 0, 1) := by decide +kernel
theorem d52 : decode yB 52 = .ok (.aload 5, 2) := by decide +kernel
theorem d54 : decode yB 54 = .ok (.putfield 9, 3) := by decide +kernel
theorem d57 : decode yB 57 = .ok (.return_, 1) := by decide +kernel
def site : List Cond := [.fieldLink "java/lang/String" 38 "java/lang/String" "COMPACT_STRINGS" "Z", Cmp3.tab, CodL.tab, .laysFinal "java/lang/String" "java/lang/String" "value" "[B", .fieldLink "java/lang/String" 9 "java/lang/String" "value" "[B", .laysFinal "java/lang/String" "java/lang/String" "coder" "B", .fieldLink "java/lang/String" 15 "java/lang/String" "coder" "B"] ++ objW "java/lang/String" 1 ++ staticW "java/lang/String" 177 Cmp3.yN ++ staticW "java/lang/String" 47 CodL.yN
def tab : Cond := tabOf yN yB 6 none site
def P (a : Addr) (D : Cell) (fV fC : Field) (b : Addr) (A : Cell) (z : Int32) (o len : Nat) (args : Array Value) (s : State) : Prop := args = #[.ref a, .ref b, .int (Int32.ofNat o), .int (Int32.ofNat len), .null] ∧ Blank "java/lang/String" a D s ∧ Found "java/lang/String" "value" "[B" fV s ∧ Found "java/lang/String" "coder" "B" fC s ∧ Ch b A s ∧ StaticIs s "java/lang/String" "COMPACT_STRINGS" "Z" (.int z) ∧ ¬ z = 0 ∧ 0 < len ∧ o + len ≤ A.slots.size ∧ len ≤ 536870912 ∧ ∀ i, i < len → ¬ 255 < cv A (o + i)
def E (a : Addr) (D : Cell) (fV fC : Field) (A : Cell) (o len : Nat) (r : Option Value) (s u : State) : Prop := Got a D fV fC A o len r s u
/-- len > 0, no char of the range above 255: a Latin-1 String of their low bytes -/
theorem law (l : Launch) (a : Addr) (D : Cell) (fV fC : Field) (b : Addr) (A : Cell) (z : Int32) (o len : Nat) : Law l yN 5 4 2 35 yB 6 none site (P a D fV fC b A z o len) (E a D fV fC A o len) [⟨a, fC.slot⟩, ⟨a, fV.slot⟩] 1 len := by
  refine Law.of_walk (plainFor_of_name (by decide +kernel)) (by decide +kernel) (by decide +kernel) (by decide) (fun _ _ h => by rw [h.1]; rfl) (fun _ U U' hal hh h => ⟨h.1, h.2.1.mv hal hh, h.2.2.1.al hal, h.2.2.2.1.al hal, h.2.2.2.2.1.mv hal hh, h.2.2.2.2.2.1.there hal hh, h.2.2.2.2.2.2⟩) (fun r U U' V V' h1 hal h2 h => Got.mv r U U' V V' h1 hal h2 h) ?_
  intro p e s m args below meth c s₁ X0 hexec hbytes hml hret hlk hnm hown hh0 W hP
  obtain ⟨rfl, hB, f1, f2, hA, s1, hz, l0, l1, l2, hp⟩ := hP
  have a31 := hA.1.2.2.2
  have c1 : Steps p.tables e below (s₁.setTop (entryFrame m #[.ref a, .ref b, .int (Int32.ofNat o), .int (Int32.ofNat len), .null] 6)) (s₁.setTop (mkF m 0 #[.val (.ref a), .val (.ref b), .val (.int (Int32.ofNat o)), .val (.int (Int32.ofNat len)), .val .null, .unset] [])) := entry rfl
  have c2 : Steps p.tables e below (s₁.setTop (entryFrame m #[.ref a, .ref b, .int (Int32.ofNat o), .int (Int32.ofNat len), .null] 6)) (s₁.setTop (mkF m 1 #[.val (.ref a), .val (.ref b), .val (.int (Int32.ofNat o)), .val (.int (Int32.ofNat len)), .val .null, .unset] [.ref a])) := c1.trans (by
    refine XS.aloadN X0.here hexec rfl (hb hbytes d0) rfl rfl ?_
    exact Steps.refl _)
  obtain ⟨T3, X3, q3, st3⟩ := X0.oinit hexec hown (wks W (objW "java/lang/String" 1)) (g := (mkF m 1 #[.val (.ref a), .val (.ref b), .val (.int (Int32.ofNat o)), .val (.int (Int32.ofNat len)), .val .null, .unset] [.ref a])) rfl (by rw [hml]; rfl) (rest := []) rfl (hb hbytes d1) (W := 0) (by show 2 * 0 + 0 ≤ _; decide) (Nat.le_of_ble_eq_true rfl) (Nat.le_of_ble_eq_true rfl)
  have hh3 := q3.trans hh0
  have c4 : Steps p.tables e below (s₁.setTop (entryFrame m #[.ref a, .ref b, .int (Int32.ofNat o), .int (Int32.ofNat len), .null] 6)) (T3.setTop (mkF m 27 #[.val (.ref a), .val (.ref b), .val (.int (Int32.ofNat o)), .val (.int (Int32.ofNat len)), .val .null, .unset] [])) := (c2.trans (st3 _ (Steps.refl _))).trans (by
    refine XS.iloadN X3.here hexec rfl (hb hbytes d4) rfl ?_
    refine XS.ifYes X3.here hexec rfl (pc0 := 5) rfl (hb hbytes d5) rfl (i0_ne_t (nz32 (by omega) l0)) (by decide) rfl ?_
    exact Steps.refl _)
  obtain ⟨T5, X5, q5, st5⟩ := X3.sget hexec hown (wk W (.fieldLink "java/lang/String" 38 "java/lang/String" "COMPACT_STRINGS" "Z")) s1 (fun _ _ h => by rw [hh3]; exact h) (g := (mkF m 27 #[.val (.ref a), .val (.ref b), .val (.int (Int32.ofNat o)), .val (.int (Int32.ofNat len)), .val .null, .unset] [])) rfl (hb hbytes d27)
  have hh5 := q5.trans hh3
  have c6 : Steps p.tables e below (s₁.setTop (entryFrame m #[.ref a, .ref b, .int (Int32.ofNat o), .int (Int32.ofNat len), .null] 6)) (T5.setTop (mkF m 30 #[.val (.ref a), .val (.ref b), .val (.int (Int32.ofNat o)), .val (.int (Int32.ofNat len)), .val .null, .unset] [.int z])) := c4.trans (st5 _ (Steps.refl _))
  have c7 : Steps p.tables e below (s₁.setTop (entryFrame m #[.ref a, .ref b, .int (Int32.ofNat o), .int (Int32.ofNat len), .null] 6)) (T5.setTop (mkF m 36 #[.val (.ref a), .val (.ref b), .val (.int (Int32.ofNat o)), .val (.int (Int32.ofNat len)), .val .null, .unset] [.int (Int32.ofNat len), .int (Int32.ofNat o), .ref b])) := c6.trans (by
    refine XS.ifNo X5.here hexec rfl (hb hbytes d30) rfl (i0_eq_f hz) ?_
    refine XS.aloadN X5.here hexec rfl (hb hbytes d33) rfl rfl ?_
    refine XS.iloadN X5.here hexec rfl (hb hbytes d34) rfl ?_
    refine XS.iloadN X5.here hexec rfl (hb hbytes d35) rfl ?_
    exact Steps.refl _)
  obtain ⟨v8, T8, X8, E8, g8⟩ := X5.callS hexec (Cmp3.law l b A o len) hown (wks W (staticW "java/lang/String" 177 Cmp3.yN)) (wk W Cmp3.tab) (W := 0) (Nat.le_of_ble_eq_true rfl) (Nat.le_of_ble_eq_true rfl) (Nat.le_refl _) (by show 0 + len ≤ len; omega) (g := (mkF m 36 #[.val (.ref a), .val (.ref b), .val (.int (Int32.ofNat o)), .val (.int (Int32.ofNat len)), .val .null, .unset] [.int (Int32.ofNat len), .int (Int32.ofNat o), .ref b])) rfl (by rw [hml]; rfl) c7 (argsL := [.ref b, .int (Int32.ofNat o), .int (Int32.ofNat len)]) (rest := []) rfl rfl (by show 2 * 0 + 0 ≤ _; decide) (hb hbytes d36) (⟨rfl, hA.mv X5.warmed.alike hh5, l1, l2, hp⟩)
  obtain ⟨e8, z8⟩ := E8
  obtain ⟨rfl, N, n1, n2, n3, n4, n5, n6⟩ := NewArr.mv _ T5 s _ _ hh5.symm (Vm.Alike.refl _) rfl e8
  rw [hh5] at z8
  have hB1 := hB.keep X8.warmed.alike (n6 _ _ hB.1)
  have hne : s.heap.size ≠ a := (Nat.ne_of_lt (Array.getElem?_eq_some_iff.mp hB.1).1).symm
  have c9 : Steps p.tables e below (s₁.setTop (entryFrame m #[.ref a, .ref b, .int (Int32.ofNat o), .int (Int32.ofNat len), .null] 6)) (T8.setTop (mkF m 39 #[.val (.ref a), .val (.ref b), .val (.int (Int32.ofNat o)), .val (.int (Int32.ofNat len)), .val .null, .unset] [.ref s.heap.size])) := g8
  have c10 : Steps p.tables e below (s₁.setTop (entryFrame m #[.ref a, .ref b, .int (Int32.ofNat o), .int (Int32.ofNat len), .null] 6)) (T8.setTop (mkF m 45 #[.val (.ref a), .val (.ref b), .val (.int (Int32.ofNat o)), .val (.int (Int32.ofNat len)), .val .null, .val (.ref s.heap.size)] [.int (Int32.ofNat N.slots.size), .ref s.heap.size, .ref a])) := by
    have hc : Steps p.tables e below (s₁.setTop (entryFrame m #[.ref a, .ref b, .int (Int32.ofNat o), .int (Int32.ofNat len), .null] 6)) (T8.setTop (mkF m 45 #[.val (.ref a), .val (.ref b), .val (.int (Int32.ofNat o)), .val (.int (Int32.ofNat len)), .val .null, .val (.ref s.heap.size)] [.int (Int32.ofNat len), .ref s.heap.size, .ref a])) := c9.trans (by
      refine XS.astore X8.here hexec rfl (hb hbytes d39) rfl rfl rfl ?_
      refine XS.aloadN X8.here hexec rfl (hb hbytes d41) rfl rfl ?_
      refine XS.aload X8.here hexec rfl (hb hbytes d42) rfl rfl ?_
      refine XS.iloadN X8.here hexec rfl (hb hbytes d44) rfl ?_
      exact Steps.refl _)
    rw [n4]; exact hc
  obtain ⟨v11, T11, X11, E11, g11⟩ := X8.callS hexec (CodL.law l s.heap.size N) hown (wks W (staticW "java/lang/String" 47 CodL.yN)) (wk W CodL.tab) (W := 1) (Nat.le_of_ble_eq_true rfl) (Nat.le_of_ble_eq_true rfl) (Nat.le_refl _) (by show 0 + len + 0 ≤ len; omega) (g := (mkF m 45 #[.val (.ref a), .val (.ref b), .val (.int (Int32.ofNat o)), .val (.int (Int32.ofNat len)), .val .null, .val (.ref s.heap.size)] [.int (Int32.ofNat N.slots.size), .ref s.heap.size, .ref a])) rfl (by rw [hml]; rfl) c10 (argsL := [.ref s.heap.size, .int (Int32.ofNat N.slots.size)]) (rest := [.ref a]) rfl rfl (by show 2 * 0 + (1 + 0) ≤ _; decide) (hb hbytes d45) (⟨rfl, n1⟩)
  obtain ⟨rfl, q11⟩ := E11
  have hB11 := hB1.mv (X8.warmed.alike.symm.trans X11.warmed.alike) q11
  have c12 : Steps p.tables e below (s₁.setTop (entryFrame m #[.ref a, .ref b, .int (Int32.ofNat o), .int (Int32.ofNat len), .null] 6)) (T11.setTop (mkF m 48 #[.val (.ref a), .val (.ref b), .val (.int (Int32.ofNat o)), .val (.int (Int32.ofNat len)), .val .null, .val (.ref s.heap.size)] [.int 0, .ref a])) := g11
  obtain ⟨T13, X13, p13, bl13, sl13, st13⟩ := X11.finit hexec hown (wk W (.fieldLink "java/lang/String" 15 "java/lang/String" "coder" "B")) (Or.inr ⟨_, (wk W (.laysFinal "java/lang/String" "java/lang/String" "coder" "B"))⟩) (Or.inl ⟨rfl, hnm⟩) f2 (Or.inl rfl) hB11 (t := .byte) (by decide +kernel) rfl (g := (mkF m 48 #[.val (.ref a), .val (.ref b), .val (.int (Int32.ofNat o)), .val (.int (Int32.ofNat len)), .val .null, .val (.ref s.heap.size)] [.int 0, .ref a])) rfl (rest := []) rfl (hb hbytes d48)
  have c14 : Steps p.tables e below (s₁.setTop (entryFrame m #[.ref a, .ref b, .int (Int32.ofNat o), .int (Int32.ofNat len), .null] 6)) (T13.setTop (mkF m 54 #[.val (.ref a), .val (.ref b), .val (.int (Int32.ofNat o)), .val (.int (Int32.ofNat len)), .val .null, .val (.ref s.heap.size)] [.ref s.heap.size, .ref a])) := (c12.trans (st13 _ (Steps.refl _))).trans (by
    refine XS.aloadN X13.here hexec rfl (hb hbytes d51) rfl rfl ?_
    refine XS.aload X13.here hexec rfl (hb hbytes d52) rfl rfl ?_
    exact Steps.refl _)
  obtain ⟨T15, X15, p15, bl15, sl15, st15⟩ := X13.finit hexec hown (wk W (.fieldLink "java/lang/String" 9 "java/lang/String" "value" "[B")) (Or.inr ⟨_, (wk W (.laysFinal "java/lang/String" "java/lang/String" "value" "[B"))⟩) (Or.inl ⟨rfl, hnm⟩) f1 (Or.inl rfl) bl13 (t := (.array .byte)) (by decide +kernel) rfl (g := (mkF m 54 #[.val (.ref a), .val (.ref b), .val (.int (Int32.ofNat o)), .val (.int (Int32.ofNat len)), .val .null, .val (.ref s.heap.size)] [.ref s.heap.size, .ref a])) rfl (rest := []) rfl (hb hbytes d54)
  have c16 : Steps p.tables e below (s₁.setTop (entryFrame m #[.ref a, .ref b, .int (Int32.ofNat o), .int (Int32.ofNat len), .null] 6)) (T15.setTop (mkF m 57 #[.val (.ref a), .val (.ref b), .val (.int (Int32.ofNat o)), .val (.int (Int32.ofNat len)), .val .null, .val (.ref s.heap.size)] [])) := c14.trans (st15 _ (Steps.refl _))
  have ap := apart (Or.inr ⟨_, (wk W (.laysFinal "java/lang/String" "java/lang/String" "value" "[B"))⟩) (Or.inr ⟨_, (wk W (.laysFinal "java/lang/String" "java/lang/String" "coder" "B"))⟩) f1 f2 (t₁ := .array .byte) (t₂ := .byte) (by decide +kernel) (by decide +kernel) (by decide)
  have al := X8.warmed.alike.symm.trans X15.warmed.alike
  have n7 : T11.heap[s.heap.size]? = some N := by rw [q11]; exact n1.1
  exact ⟨T15, none, _, _, _, X15, by simp, rfl, by omega, (fun _ => rfl), ⟨rfl, _, N, bl15, ((Same.refl D _).set _ (by simp)).set _ (by simp), sl15, (Cell.slots_setSlot_ne _ ap).trans sl13, n1.keep al (p15.other hne (p13.other hne n7)), n2, by rw [al.findClass]; exact n3, n4, n5, fun y c h1 h2 => p15.other h1 (p13.other h1 (by rw [q11]; exact n6 y c h2)), by rw [p15.2.2, p13.2.2, q11]; exact z8⟩, fun fs hl => c16.trans (X15.returnOut hexec hret (hb hbytes d57) hl)⟩
end New4
namespace New1
def yN : MethodName := ⟨"java/lang/String", "<init>", "([C)V"⟩
abbrev yB : ByteArray := jdk_42_method_3_code
theorem d0 : decode yB 0 = .ok (.aload_n 0, 1) := by decide +kernel
theorem d1 : decode yB 1 = .ok (.aload_n 1, 1) := by decide +kernel
theorem d2 : decode yB 2 = .ok (.iconst 0, 1) := by decide +kernel
theorem d3 : decode yB 3 = .ok (.aload_n 1, 1) := by decide +kernel
theorem d4 : decode yB 4 = .ok (.arraylength, 1) := by decide +kernel
theorem d5 : decode yB 5 = .ok (.aconst_null, 1) := by decide +kernel
theorem d6 : decode yB 6 = .ok (.invokespecial 27, 3) := by decide +kernel
theorem d9 : decode yB 9 = .ok (.return_, 1) := by decide +kernel
def site : List Cond := [New4.tab] ++ initW "java/lang/String" 27 New4.yN
def tab : Cond := tabOf yN yB 2 none site
def P (a : Addr) (D : Cell) (fV fC : Field) (b : Addr) (A : Cell) (z : Int32) (args : Array Value) (s : State) : Prop := args = #[.ref a, .ref b] ∧ Blank "java/lang/String" a D s ∧ Found "java/lang/String" "value" "[B" fV s ∧ Found "java/lang/String" "coder" "B" fC s ∧ Ch b A s ∧ StaticIs s "java/lang/String" "COMPACT_STRINGS" "Z" (.int z) ∧ ¬ z = 0 ∧ 0 < A.slots.size ∧ A.slots.size ≤ 536870912 ∧ ∀ i, i < A.slots.size → ¬ 255 < cv A i
def E (a : Addr) (D : Cell) (fV fC : Field) (A : Cell) (r : Option Value) (s u : State) : Prop := Got a D fV fC A 0 A.slots.size r s u
/-- new String(chars), not empty, no char above 255: a Latin-1 String of their low bytes -/
theorem law (l : Launch) (a : Addr) (D : Cell) (fV fC : Field) (b : Addr) (A : Cell) (z : Int32) : Law l yN 2 1 3 52 yB 2 none site (P a D fV fC b A z) (E a D fV fC A) [⟨a, fC.slot⟩, ⟨a, fV.slot⟩] 1 A.slots.size := by
  refine Law.of_walk (plainFor_of_name (by decide +kernel)) (by decide +kernel) (by decide +kernel) (by decide) (fun _ _ h => by rw [h.1]; rfl) (fun _ U U' hal hh h => ⟨h.1, h.2.1.mv hal hh, h.2.2.1.al hal, h.2.2.2.1.al hal, h.2.2.2.2.1.mv hal hh, h.2.2.2.2.2.1.there hal hh, h.2.2.2.2.2.2⟩) (fun r U U' V V' h1 hal h2 h => Got.mv r U U' V V' h1 hal h2 h) ?_
  intro p e s m args below meth c s₁ X0 hexec hbytes hml hret hlk hnm hown hh0 W hP
  obtain ⟨rfl, hB, f1, f2, hA, s1, hz, l0, l2, hp⟩ := hP
  have c1 : Steps p.tables e below (s₁.setTop (entryFrame m #[.ref a, .ref b] 2)) (s₁.setTop (mkF m 0 #[.val (.ref a), .val (.ref b)] [])) := entry rfl
  have c2 : Steps p.tables e below (s₁.setTop (entryFrame m #[.ref a, .ref b] 2)) (s₁.setTop (mkF m 6 #[.val (.ref a), .val (.ref b)] [.null, .int (Int32.ofNat A.slots.size), .int 0, .ref b, .ref a])) := c1.trans (by
    refine XS.aloadN X0.here hexec rfl (hb hbytes d0) rfl rfl ?_
    refine XS.aloadN X0.here hexec rfl (hb hbytes d1) rfl rfl ?_
    refine iconstV X0.here hexec rfl 0 (hb hbytes d2) (by decide) ?_
    refine XS.aloadN X0.here hexec rfl (hb hbytes d3) rfl rfl ?_
    refine X0.alen hexec (hA.1.mv X0.warmed.alike hh0) rfl rfl (hb hbytes d4) ?_
    refine XS.aconstNull X0.here hexec rfl (hb hbytes d5) ?_
    exact Steps.refl _)
  obtain ⟨v3, T3, X3, E3, g3⟩ := X0.callN hexec (New4.law l a D fV fC b A z 0 A.slots.size) rfl hown (wks W (initW "java/lang/String" 27 New4.yN)) (W New4.tab (by simp only [site, List.mem_cons, List.mem_append, true_or, or_true])) (W := 0) (Nat.le_of_ble_eq_true rfl) (Nat.le_of_ble_eq_true rfl) (Nat.le_refl _) (by show 0 + A.slots.size ≤ A.slots.size; omega) (g := (mkF m 6 #[.val (.ref a), .val (.ref b)] [.null, .int (Int32.ofNat A.slots.size), .int (Int32.ofNat 0), .ref b, .ref a])) rfl (by rw [hml]; rfl) c2 (argsL := [.ref b, .int (Int32.ofNat 0), .int (Int32.ofNat A.slots.size), .null]) (rest := []) rfl rfl (by show 2 * 0 + 0 ≤ _; decide) (hb hbytes d6) (⟨rfl, hB.mv X0.warmed.alike hh0, f1.al X0.warmed.alike, f2.al X0.warmed.alike, hA.mv X0.warmed.alike hh0, s1.there X0.warmed.alike hh0, hz, l0, by omega, l2, fun i hi => by rw [Nat.zero_add]; exact hp i hi⟩)
  have e0 := Got.mv _ s₁ s _ _ hh0.symm (Vm.Alike.refl _) rfl E3
  obtain rfl := e0.1
  have c4 : Steps p.tables e below (s₁.setTop (entryFrame m #[.ref a, .ref b] 2)) (T3.setTop (mkF m 9 #[.val (.ref a), .val (.ref b)] [])) := g3
  exact ⟨T3, none, _, _, _, X3, by simp, rfl, by omega, (fun _ => rfl), e0, fun fs hl => c4.trans (X3.returnOut hexec hret (hb hbytes d9) hl)⟩
theorem pays {l : Launch} {R : Room} {p : Program} {e : Env} {below : List Frame} {s : State} {sargs : Array Value} {len W : Nat} (a : Addr) (D : Cell) (fV fC : Field) (b : Addr) (A : Cell) (z : Int32) (htab : tab.before sargs s = true) (hfr : 4 ≤ R.frames) (hlo : W + 65 ≤ R.locals) :
    Back l R p e below s sargs yN len W (fun A₁ a₁ => A₁.cells + 1 ≤ R.cells ∧ A₁.slots + A.slots.size ≤ R.slots ∧ P a D fV fC b A z a₁ A₁.U) (fun A₁ _ v₁ B₁ => E a D fV fC A v₁ A₁.U B₁.U ∧ B₁.locs = A₁.locs ++ [⟨a, fC.slot⟩, ⟨a, fV.slot⟩] ∧ B₁.cells = A₁.cells + 1 ∧ B₁.slots = A₁.slots + A.slots.size) :=
  (law l a D fV fC b A z).pays htab hfr (by omega)
end New1
/-- the byte, read back as charAt reads it, is the char -/
theorem lo8_mask {x : Int32} (h0 : ¬ x < 0) (h1 : ¬ 255 < x) : lo8 x &&& 255 = x := by
  have t : ∀ k : Fin 256, lo8 (Int32.ofNat k.val) &&& 255 = Int32.ofNat k.val := by decide +kernel
  rw [Int32.lt_iff_toInt_lt] at h0 h1
  have e0 : (0 : Int32).toInt = 0 := rfl
  have e1 : (255 : Int32).toInt = 255 := rfl
  obtain ⟨k, hk⟩ : ∃ k : Nat, x.toInt = k := ⟨x.toInt.toNat, by omega⟩
  have hx : x = Int32.ofNat k := Int32.toInt_inj.mp (by rw [hk, Int32.toInt_ofNat_small (by omega)])
  rw [hx]
  exact t ⟨k, by omega⟩
end StrChars
namespace StrChars.Road
open Jvm Sem ClassFile Op Lib Jvm.Stand Jvm.Free Jvm.Free.XT
open Jvm.Lib.Cold (StaticIs)
abbrev ST : String := "java/lang/String"
/-- every table word that New1's law asks, flat -/
abbrev words : List Jvm.Cond := [.code New1.yN New1.yB 2 none, .initialized ST, .methodLink ST 27 New4.yN, .instanceMethod New4.yN,
  .code New4.yN New4.yB 6 none, .fieldLink ST 38 ST "COMPACT_STRINGS" "Z", .laysFinal ST ST "value" "[B", .fieldLink ST 9 ST "value" "[B", .laysFinal ST ST "coder" "B", .fieldLink ST 15 ST "coder" "B",
  .methodLink ST 1 Lib.objectInit, .instanceMethod Lib.objectInit, .code Lib.objectInit ⟨#[0xb1]⟩ 1 none, .methodLink ST 177 Cmp3.yN, .static Cmp3.yN, .methodLink ST 47 CodL.yN, .static CodL.yN,
  .code Cmp3.yN Cmp3.yB 6 (some (.array .byte)), .initialized U16, .arrayClass .byte, .methodLink U16 115 Cmp5.yN, .static Cmp5.yN, .code Cmp5.yN Cmp5.yB 7 (some .int), .code CodL.yN CodL.yB 2 (some .byte)]
theorem tab_of {a : Array Value} {s : State} (h : ∀ w ∈ words, w.before a s = true) : New1.tab.before a s = true := by
  have h5 : Cmp5.tab.before a s = true := unparts (wk h (.code Cmp5.yN Cmp5.yB 7 (some .int))) (wks h (.initialized Cmp5.yN.cls :: Cmp5.site))
  have hc : CodL.tab.before a s = true := unparts (wk h (.code CodL.yN CodL.yB 2 (some .byte))) (wks h (.initialized CodL.yN.cls :: CodL.site))
  have q5 : ∀ w ∈ Cmp5.tab :: words, w.before a s = true := fun w hw => (List.mem_cons.mp hw).elim (fun e => e ▸ h5) (h w)
  have h3 : Cmp3.tab.before a s = true := unparts (wk q5 (.code Cmp3.yN Cmp3.yB 6 (some (.array .byte)))) (wks q5 (.initialized Cmp3.yN.cls :: Cmp3.site))
  have q3 : ∀ w ∈ Cmp3.tab :: CodL.tab :: words, w.before a s = true := fun w hw => (List.mem_cons.mp hw).elim (fun e => e ▸ h3) fun hw => (List.mem_cons.mp hw).elim (fun e => e ▸ hc) (h w)
  have h4 : New4.tab.before a s = true := unparts (wk q3 (.code New4.yN New4.yB 6 none)) (wks q3 (.initialized New4.yN.cls :: New4.site))
  have q4 : ∀ w ∈ New4.tab :: words, w.before a s = true := fun w hw => (List.mem_cons.mp hw).elim (fun e => e ▸ h4) (h w)
  exact unparts (wk q4 (.code New1.yN New1.yB 2 none)) (wks q4 (.initialized New1.yN.cls :: New1.site))
/-- the words ride from the start Z to the walk's own state -/
theorem moved {Z s : State} {a0 args : Array Value} (hZ : Z.Warmed39 s.vm) (hw : ∀ d ∈ words, d.before a0 Z = true) : ∀ d ∈ words, d.before args s = true := fun d hd => by
  have q := hw d hd
  have t : ∀ d ∈ words, d = .arrayClass .byte ∨ (d.onTables && d.keepsFace) = true := by decide +kernel
  rcases t d hd with rfl | t
  · exact RoadKit.mvA hZ q
  · exact RoadKit.mv hZ q t
/-- WHAT COMES BACK, over the tables of the start Z: h the heap at the call, h' behind it -/
def Q (Z : State) (x : Addr) (A : Cell) (h : Heap) (v : Option Value) (h' : Heap) (L : List Loc) : Prop := v = none ∧ (∀ y ∈ L, y.base = x) ∧ RoadKit.Keep h h' [x] ∧ h'.size = h.size + 1 ∧ RoadKit.Exa Z h' x ST ∧ RoadKit.Fld Z h' x ST "value" "[B" (.ref h.size) ∧ RoadKit.Fld Z h' x ST "coder" "B" (.int 0) ∧
  (∃ V : Cell, RoadKit.Arr Z h' h.size V .byte ∧ V.vm = .none ∧ Z.vm.findClass "[B" = some V.cls ∧ V.slots.size = A.slots.size ∧ ∀ j, j < A.slots.size → V.slots[j]? = some (.int (lo8 (cv A j)))) ∧
  ∀ (O n d : String) (w : Value), RoadKit.Fld Z h x O n d w → RoadKit.slotOf Z O n d ≠ RoadKit.slotOf Z ST "value" "[B" → RoadKit.slotOf Z O n d ≠ RoadKit.slotOf Z ST "coder" "B" → RoadKit.Fld Z h' x O n d w
/-- **new String(chars) AT A CALL, IN THE ROAD'S FORM**: for specialBack behind newO: x the fresh String, b the char[] with the cell A -/
theorem back {p : Program} {l : Launch} {e : Env} {R : Room} {s : State} {args : Array Value} {below : List Frame} {len W : Nat} {Z : State} {a0 : Array Value} {h : Heap} (hZ : Z.Warmed39 s.vm) (hw : ∀ d ∈ words, d.before a0 Z = true) {kI : Nat} (wi : (Jvm.Cond.instantiable ST kI).before a0 Z = true)
    {x b : Addr} {A : Cell} {z : Int32} {v0 c0 : Value} (E : RoadKit.Exa Z h x ST) (V : RoadKit.Fld Z h x ST "value" "[B" v0) (C : RoadKit.Fld Z h x ST "coder" "B" c0) (K : RoadKit.Arr Z h b A .char) (hty : Typed .char A) (S : RoadKit.Sta Z h ST "COMPACT_STRINGS" "Z" (.int z)) (hz : ¬ z = 0)
    (l0 : 0 < A.slots.size) (l2 : A.slots.size ≤ 536870912) (hp : ∀ i, i < A.slots.size → ¬ 255 < cv A i) (hfr : 4 ≤ R.frames) (hlo : W + 65 ≤ R.locals) :
    Back l R p e below s args New1.yN len W (fun P a => a = #[.ref x, .ref b] ∧ P.U.heap = h ∧ P.cells + 1 ≤ R.cells ∧ P.slots + A.slots.size ≤ R.slots)
      (fun P _ v B => ∃ L, Q Z x A h v B.U.heap L ∧ B.locs = P.locs ++ L ∧ B.cells = P.cells + 1 ∧ B.slots = P.slots + A.slots.size) := by
  intro m meth c P g ig mk a X hg hsize hdg hW hn hp'
  obtain ⟨rfl, rfl, r1, r2⟩ := hp'
  have al : Z.vm.Alike P.U.vm := hZ.alike.trans X.warmed.alike
  obtain ⟨D, cfV, kV, iV, fV, hD, gV, stV, knV, obV, asV, slV⟩ := id V
  obtain ⟨D', cfC, kC, iC, fC, hD', gC, stC, -, -, asC, slC⟩ := id C
  cases hD.symm.trans hD'
  obtain ⟨D2, kD, e1, e2, e3, e4, e5⟩ := id E
  cases hD.symm.trans e1
  obtain ⟨c2, k2, i1, i2, i3, -⟩ := Cond.instantiable_spec wi
  cases e2.symm.trans i1
  cases e3.symm.trans i2
  obtain ⟨kU, u1, u2⟩ := al.2.2 _ _ e3
  have hB : Blank ST x D P.U := ⟨hD, ⟨knV, fun q hq => by rw [hq] at obV; cases obV⟩, by rw [al.findClass]; exact e2, kU, u1, by rw [u2]; exact i3, by rw [u2]; exact e5 i3⟩
  have F1 : Found ST "value" "[B" fV P.U := ⟨SBG.found_only al ⟨cfV, kV, iV, gV⟩, stV⟩
  have F2 : Found ST "coder" "B" fC P.U := ⟨SBG.found_only al ⟨cfC, kC, iC, gC⟩, stC⟩
  have hA : Ch b A P.U := ⟨⟨K.1, State.isArrayOf_alike al K.2.1, K.2.2, by omega⟩, hty⟩
  have hS : StaticIs P.U ST "COMPACT_STRINGS" "Z" (.int z) := by
    obtain ⟨cfS, iS, kS, fS, st, cS, t1, t2, t3, t4, t5, t6, t7⟩ := S
    exact StaticIs.there (s := { Z with heap := P.U.heap }) ⟨cfS, iS, kS, fS, st, cS, t1, t2, t3, t4, t5, (fun q => by rw [q] at t6; cases t6), t7⟩ al rfl
  obtain ⟨v, B, X', ⟨⟨hv, E', V', q1, q2, q3, q4, q5, q6, q7, q8, q9, q10, q11⟩, hl, hc, hs⟩, st⟩ := New1.pays x D fV fC b A z (tab_of (moved hZ hw)) hfr hlo m meth c P g ig mk _ X hg hsize hdg hW hn ⟨r1, r2, rfl, hB, F1, F2, hA, hS, hz, l0, l2, hp⟩
  have al' : Z.vm.Alike B.U.vm := hZ.alike.trans X'.warmed.alike
  have hsz : E'.slots.size = D.slots.size := by
    obtain ⟨-, -, -, kB, w1, w2, w3⟩ := q1
    obtain ⟨kB', y1, y2⟩ := al'.2.2 _ _ e3
    rw [q2.2.1] at w1
    cases w1.symm.trans y1
    rw [w3, e5 i3, y2]
  refine ⟨v, B, X', ⟨_, ⟨hv, ?_, ⟨by omega, fun y cy hy hn' => q10 y cy (by simpa using hn') hy, fun y cy hy => ?_⟩, q11, ⟨E', _, q1.1, by rw [q2.2.1]; exact e2, by rw [q2.2.1]; exact e3, by rw [q2.1]; exact obV, fun _ => by rw [hsz]; exact e5 i3⟩,
    ⟨E', cfV, kV, iV, fV, q1.1, gV, stV, by rw [q2.1]; exact knV, by rw [q2.1]; exact obV, by rw [q2.2.1]; exact asV, q3⟩, ⟨E', cfC, kC, iC, fC, q1.1, gC, stC, by rw [q2.1]; exact knV, by rw [q2.1]; exact obV, by rw [q2.2.1]; exact asC, q4⟩,
    ⟨V', ⟨q5.1, State.isArrayOf_alike al'.symm q5.2.1, q5.2.2.1⟩, q6, by rw [← al'.findClass]; exact q7, q8, fun j hj => by have := q9 j hj; rwa [Nat.zero_add] at this⟩, fun O n d w F n1 n2 => ?_⟩, hl, hc, hs⟩, st⟩
  · intro y hy
    simp only [List.mem_cons, List.not_mem_nil, or_false] at hy
    rcases hy with rfl | rfl <;> rfl
  · by_cases q : y = x
    · subst q
      cases hD.symm.trans hy
      exact ⟨E', q1.1, q2.2.1, q2.1, hsz⟩
    · exact ⟨cy, q10 y cy q hy, rfl, rfl, rfl⟩
  · obtain ⟨D3, cf, k, i, f, g1, g2, g3, g4, g5, g6, g7⟩ := F
    cases hD.symm.trans g1
    simp only [RoadKit.slotOf, g2, gV, gC, Option.map_some, Option.getD_some] at n1 n2
    exact ⟨E', cf, k, i, f, q1.1, g2, g3, by rw [q2.1]; exact g4, by rw [q2.1]; exact g5, by rw [q2.2.1]; exact g6, by rw [q2.2.2 f.slot (by simp [n1, n2])]; exact g7⟩
end StrChars.Road
namespace StrChars.Road
open Jvm Sem ClassFile Op Lib Jvm.Stand Jvm.Free Jvm.Free.XT
/-- WHAT COMES BACK, the byte[] as a list of values -/
def QA (Z : State) (x : Addr) (zn : Int32) (cs : List Int32) (h : Heap) (v : Option Value) (h' : Heap) (L : List Loc) : Prop := v = none ∧ (∀ y ∈ L, y.base = x) ∧ RoadKit.Keep h h' [x] ∧ h'.size = h.size + 1 ∧ RoadKit.Exa Z h' x ST ∧ RoadKit.Fld Z h' x ST "value" "[B" (.ref h.size) ∧ RoadKit.Fld Z h' x ST "coder" "B" (.int 0) ∧
  (∃ kb, Z.vm.findClass "[B" = some kb ∧ RoadKit.Arv Z h' h.size kb .byte zn (cs.map fun c => .int (lo8 c)) (.int 0)) ∧
  ∀ (O n d : String) (w : Value), RoadKit.Fld Z h x O n d w → RoadKit.slotOf Z O n d ≠ RoadKit.slotOf Z ST "value" "[B" → RoadKit.slotOf Z O n d ≠ RoadKit.slotOf Z ST "coder" "B" → RoadKit.Fld Z h' x O n d w
/-- **new String(chars) AT A CALL, THE ARRAYS AS LISTS**: the char[] at b holds cs, not empty, no char above 255 -/
theorem backArv {p : Program} {l : Launch} {e : Env} {R : Room} {s : State} {args : Array Value} {below : List Frame} {len W : Nat} {Z : State} {a0 : Array Value} {h : Heap} (hZ : Z.Warmed39 s.vm) (hw : ∀ d ∈ words, d.before a0 Z = true) {kI : Nat} (wi : (Jvm.Cond.instantiable ST kI).before a0 Z = true)
    {x b : Addr} {k : ClassId} {zn z : Int32} {cs : List Int32} {dv v0 c0 : Value} (E : RoadKit.Exa Z h x ST) (V : RoadKit.Fld Z h x ST "value" "[B" v0) (C : RoadKit.Fld Z h x ST "coder" "B" c0) (K : RoadKit.Arv Z h b k .char zn (cs.map Value.int) dv) (S : RoadKit.Sta Z h ST "COMPACT_STRINGS" "Z" (.int z)) (hz : ¬ z = 0)
    (hlen : zn.toNatClampNeg = cs.length) (h0 : 0 < cs.length) (hbig : cs.length ≤ 536870912) (hall : ∀ c ∈ cs, ¬ 255 < c) (hfr : 4 ≤ R.frames) (hlo : W + 65 ≤ R.locals) :
    Back l R p e below s args New1.yN len W (fun P a => a = #[.ref x, .ref b] ∧ P.U.heap = h ∧ P.cells + 1 ≤ R.cells ∧ P.slots + cs.length ≤ R.slots)
      (fun P _ v B => ∃ L, QA Z x zn cs h v B.U.heap L ∧ B.locs = P.locs ++ L ∧ B.cells = P.cells + 1 ∧ B.slots = P.slots + cs.length) := by
  obtain ⟨A, K1, K2, K3, K4, K5, K6⟩ := K
  have e : A.slots.size = cs.length := K3.trans hlen
  have hat : ∀ (i : Nat) (hi : i < cs.length), A.slots[i]? = some (.int cs[i]) := fun i hi => by rw [K5 i (by omega)]; simp [List.getD_eq_getElem?_getD, hi]
  have hcv : ∀ (i : Nat) (hi : i < cs.length), cv A i = cs[i] := fun i hi => by unfold cv; rw [hat i hi]
  have hty : Typed .char A := fun i v hv => by
    have hi : i < A.slots.size := (Array.getElem?_eq_some_iff.mp hv).1
    have q := K5 i hi
    rw [hv] at q
    rw [Option.some.inj q]
    exact K6 i hi
  refine Back.mono (back hZ hw wi E V C K1 hty S hz (by omega) (by omega) (fun i hi => by rw [hcv i (by omega)]; exact hall _ (List.getElem_mem _)) hfr hlo) (fun P a hp => ⟨hp.1, hp.2.1, hp.2.2.1, by rw [e]; exact hp.2.2.2⟩) (fun P a v B hp hq => ?_)
  obtain ⟨L, ⟨q1, q2, q3, q4, q5, q6, q7, ⟨V', v1, v2, v3, v4, v5⟩, q9⟩, hl, hc, hs⟩ := hq
  refine ⟨L, ⟨q1, q2, q3, q4, q5, q6, q7, ⟨V'.cls, v3, V', v1, rfl, by rw [v4, e, hlen], K4, fun i hi => ?_, fun i hi => ?_⟩, q9⟩, hl, hc, by rw [hs, e]⟩
  · have hi' : i < cs.length := by omega
    rw [v5 i (by omega), hcv i hi']; simp [List.getD_eq_getElem?_getD, hi']
  · have hi' : i < cs.length := by omega
    simp only [List.getD_eq_getElem?_getD, List.getElem?_map, List.getElem?_eq_getElem hi', Option.map_some, Option.getD_some]
    exact fits_lo8 _
end StrChars.Road
namespace StrChars.Road
open Jvm Sem ClassFile Op Lib Jvm.Stand Jvm.Free Jvm.Free.XT
/-- WHAT COMES BACK, in the writer's own shape -/
def QV (Z : State) (x : Addr) (N : Int32) (bs : List Int32) (h : Heap) (n0 : Nat) (v : Option Value) (h' : Heap) (L : List Loc) : Prop := v = none ∧ RoadKit.Fr n0 L ∧ RoadKit.Keep h h' [x] ∧ RoadKit.Exa Z h' x ST ∧ RoadKit.Fld Z h' x ST "coder" "B" (.int 0) ∧
  ∃ (t : Addr) (kb : ClassId), n0 ≤ t ∧ h.size ≤ t ∧ ¬ t = x ∧ RoadKit.Fld Z h' x ST "value" "[B" (.ref t) ∧ RoadKit.Arv Z h' t kb .byte N (bs.map Value.int) (.int 0)
/-- **new String(chars) AT A CALL, FOR THE WRITER**: a char[] of n known ints, each 0 to 255 -/
theorem backV {p : Program} {l : Launch} {e : Env} {R : Room} {s : State} {args : Array Value} {below : List Frame} {len W : Nat} {Z : State} {a0 : Array Value} {h : Heap} (hZ : Z.Warmed39 s.vm) (hw : ∀ d ∈ words, d.before a0 Z = true) {kI : Nat} (wi : (Jvm.Cond.instantiable ST kI).before a0 Z = true)
    {x b : Addr} {kC : ClassId} {cs bs : List Int32} {d v0 c0 : Value} {z N : Int32} {n n0 : Nat} (hx0 : n0 ≤ x) (hh0 : n0 ≤ h.size) (E : RoadKit.Exa Z h x ST) (V : RoadKit.Fld Z h x ST "value" "[B" v0) (C : RoadKit.Fld Z h x ST "coder" "B" c0) (K : RoadKit.Arv Z h b kC .char N (cs.map Value.int) d) (S : RoadKit.Sta Z h ST "COMPACT_STRINGS" "Z" (.int z)) (hz : ¬ z = 0)
    (hn : cs.length = n) (hN : N = Int32.ofNat n) (l0 : 0 < n) (l2 : n ≤ 4000) (hp : ∀ c ∈ cs, ¬ c < 0 ∧ ¬ (255 : Int32) < c) (hb : bs = cs.map (fun c => c.toInt8.toInt32)) (hfr : 4 ≤ R.frames) (hlo : W + 65 ≤ R.locals) :
    Back l R p e below s args (⟨"java/lang/String", "<init>", "([C)V"⟩ : MethodName) len W (fun P a => a = #[.ref x, .ref b] ∧ P.U.heap = h ∧ P.cells + 1 ≤ R.cells ∧ P.slots + n ≤ R.slots)
      (fun P _ v B => ∃ L, QV Z x N bs h n0 v B.U.heap L ∧ B.locs = P.locs ++ L ∧ B.cells = P.cells + 1 ∧ B.slots = P.slots + n) := by
  subst hn hN hb
  refine Back.mono (backArv hZ hw wi E V C K S hz (n32 (by omega)) l0 (by omega) (fun c hc => (hp c hc).2) hfr hlo) (fun P a hp => hp) (fun P a v B hp hq => ?_)
  obtain ⟨L, ⟨q1, q2, q3, q4, q5, q6, q7, ⟨kb, v1, v2⟩, q9⟩, hl, hc, hs⟩ := hq
  exact ⟨L, ⟨q1, fun y hy => by rw [q2 y hy]; exact hx0, q3, q5, q7, h.size, kb, hh0, Nat.le_refl _, Nat.ne_of_gt E.lt, q6, by rw [List.map_map]; exact v2⟩, hl, hc, hs⟩
end StrChars.Road
namespace StrChars
open Jvm Sem ClassFile Op Lib Jvm.Stand Jvm.Free.XT Jvm.Free.ALB Jvm.Free.JM Jvm.Free
open Jvm.Lib.Cold (StaticIs)
def hi8 (x : Int32) : Int32 := lo8 (x >>> ((8 : Int32) &&& 31))
/-- what StringUTF16.getChar makes of two bytes -/
def pairCh (u v : Int32) : Int32 := (((u &&& 255) <<< ((0 : Int32) &&& 31)) ||| ((v &&& 255) <<< ((8 : Int32) &&& 31))).toUInt32.toUInt16.toUInt32.toInt32
theorem shr0 (c : Int32) : c >>> ((0 : Int32) &&& 31) = c := by
  have e : ((0 : Int32) &&& 31) = 0 := by decide
  rw [e]
  apply Int32.toBitVec_inj.mp
  rw [Int32.toBitVec_shiftRight]
  have e1 : ((0 : Int32).toBitVec.smod 32) = 0#32 := by decide
  rw [e1, BitVec.sshiftRight_eq']
  exact BitVec.sshiftRight_zero
theorem lo8_and (x : Int32) : (lo8 x &&& 255).toBitVec.toNat = x.toBitVec.toNat % 256 := by
  have h : (lo8 x).toBitVec = (x.toBitVec.signExtend 8).signExtend 32 := by rw [lo8, Int8.toBitVec_toInt32, Int32.toBitVec_toInt8]
  rw [Int32.toBitVec_and, BitVec.toNat_and, h]
  have e : ((x.toBitVec.signExtend 8).signExtend 32).toNat % 256 = x.toBitVec.toNat % 256 := by
    rw [BitVec.toNat_signExtend]
    have hlt := x.toBitVec.isLt
    simp only [BitVec.toNat_setWidth, BitVec.toNat_signExtend]
    split <;> split <;> omega
  rw [← e]
  exact Nat.and_two_pow_sub_one_eq_mod _ 8
theorem pair_says {c : Int32} (h0 : ¬ c < 0) (h1 : ¬ 65535 < c) : pairCh (lo8 c) (hi8 c) = c := by
  rw [Int32.lt_iff_toInt_lt] at h0 h1
  have e0 : (0 : Int32).toInt = 0 := rfl
  have e1 : (65535 : Int32).toInt = 65535 := rfl
  have hc : c.toInt = c.toBitVec.toNat := by
    have := c.toBitVec.isLt
    have e : c.toInt = c.toBitVec.toInt := rfl
    rw [e] at h0 h1
    rw [e]
    rw [BitVec.toInt_eq_toNat_cond] at h0 h1 ⊢
    split at h0 <;> split <;> omega
  have hn : c.toBitVec.toNat < 65536 := by omega
  have a1 := lo8_and c
  have a2 : (hi8 c &&& 255).toBitVec.toNat = c.toBitVec.toNat / 256 := by
    rw [hi8, lo8_and]
    have e : ((8 : Int32) &&& 31) = 8 := by decide
    rw [e, Int32.toBitVec_shiftRight]
    have e2 : ((8 : Int32).toBitVec.smod 32) = 8#32 := by decide
    rw [e2, BitVec.sshiftRight_eq', BitVec.toNat_sshiftRight_of_msb_false (by rw [BitVec.msb_eq_false_iff_two_mul_lt]; omega)]
    show c.toBitVec.toNat >>> 8 % 256 = _
    rw [Nat.shiftRight_eq_div_pow]
    omega
  unfold pairCh
  apply Int32.toBitVec_inj.mp
  apply BitVec.eq_of_toNat_eq
  have f0 : ((0 : Int32) &&& 31) = 0 := by decide
  have f8 : ((8 : Int32) &&& 31) = 8 := by decide
  rw [f0, f8]
  have g : (((lo8 c &&& 255) <<< (0 : Int32)) ||| ((hi8 c &&& 255) <<< (8 : Int32))).toBitVec.toNat = c.toBitVec.toNat := by
    rw [Int32.toBitVec_or, Int32.toBitVec_shiftLeft, Int32.toBitVec_shiftLeft]
    have s0 : ((0 : Int32).toBitVec.smod 32) = 0#32 := by decide
    have s8 : ((8 : Int32).toBitVec.smod 32) = 8#32 := by decide
    rw [s0, s8, BitVec.toNat_or]
    simp only [BitVec.shiftLeft_eq', BitVec.toNat_shiftLeft, a1, a2]
    show (c.toBitVec.toNat % 256) <<< 0 % 2 ^ 32 ||| (c.toBitVec.toNat / 256) <<< 8 % 2 ^ 32 = _
    rw [Nat.shiftLeft_zero, Nat.mod_eq_of_lt (show c.toBitVec.toNat % 256 < 2 ^ 32 by omega), Nat.mod_eq_of_lt (show (c.toBitVec.toNat / 256) <<< 8 < 2 ^ 32 by rw [Nat.shiftLeft_eq]; omega), Nat.or_comm, ← Nat.shiftLeft_add_eq_or_of_lt (by omega), Nat.shiftLeft_eq]
    omega
  show BitVec.toNat (((((lo8 c &&& 255) <<< (0 : Int32)) ||| ((hi8 c &&& 255) <<< (8 : Int32))).toBitVec.setWidth 16).setWidth 32) = _
  rw [BitVec.toNat_setWidth, BitVec.toNat_setWidth, g]
  omega
end StrChars
namespace StrChars
open Jvm Sem ClassFile Op Lib Jvm.Stand Jvm.Free.XT Jvm.Free.ALB Jvm.Free.JM Jvm.Free
open Jvm.Lib.Cold (StaticIs)
theorem shr1 {n : Nat} (h : 2 * n < 2 ^ 31) : Int32.ofNat (2 * n) >>> ((1 : Int32) &&& 31) = Int32.ofNat n := by
  have e : ((1 : Int32) &&& 31) = 1 := by decide
  rw [e]
  apply Int32.toBitVec_inj.mp
  rw [Int32.toBitVec_shiftRight]
  have e1 : ((1 : Int32).toBitVec.smod 32) = 1#32 := by decide
  have hm : (BitVec.ofNat 32 (2 * n)).toNat = 2 * n := by rw [BitVec.toNat_ofNat, Nat.mod_eq_of_lt (by omega)]
  rw [e1, BitVec.sshiftRight_eq']
  apply BitVec.eq_of_toNat_eq
  show ((BitVec.ofNat 32 (2 * n)).sshiftRight 1).toNat = (BitVec.ofNat 32 n).toNat
  rw [BitVec.toNat_sshiftRight_of_msb_false (by rw [BitVec.msb_eq_false_iff_two_mul_lt, hm]; omega), hm, BitVec.toNat_ofNat, Nat.shiftRight_eq_div_pow]
  omega
/-- charAt's cast of a byte read back -/
def chr8 (u : Int32) : Int32 := (u &&& 255).toUInt32.toUInt16.toUInt32.toInt32
theorem chr8_lo8 {c : Int32} (h0 : ¬ c < 0) (h1 : ¬ 255 < c) : chr8 (lo8 c) = c := by
  have t : ∀ k : Fin 256, (Int32.ofNat k.val).toUInt32.toUInt16.toUInt32.toInt32 = Int32.ofNat k.val := by decide +kernel
  unfold chr8
  rw [lo8_mask h0 h1]
  rw [Int32.lt_iff_toInt_lt] at h0 h1
  have e0 : (0 : Int32).toInt = 0 := rfl
  have e1 : (255 : Int32).toInt = 255 := rfl
  obtain ⟨k, hk⟩ : ∃ k : Nat, c.toInt = k := ⟨c.toInt.toNat, by omega⟩
  have hx : c = Int32.ofNat k := Int32.toInt_inj.mp (by rw [hk, Int32.toInt_ofNat_small (by omega)])
  rw [hx]
  exact t ⟨k, by omega⟩
theorem narrow_ch {c : Int32} (h0 : ¬ c < 0) (h1 : ¬ 65535 < c) : narrow .char (.int c) = .int c := by
  have q : narrow .char (.int (pairCh (lo8 c) (hi8 c))) = .int (pairCh (lo8 c) (hi8 c)) := narrow_c _
  rwa [pair_says h0 h1] at q
/-- the array's cell V codes the n chars f 0 .. f (n - 1) by the coder cd, as the JDK does: coder 1 just where some char is above 255 -/
def Cod (cd : Int32) (n : Nat) (f : Nat → Int32) (V : Cell) : Prop := (cd = 0 ∧ V.slots.size = n ∧ ∀ j, j < n → V.slots[j]? = some (.int (lo8 (f j))) ∧ ¬ 255 < f j) ∨ (cd = 1 ∧ V.slots.size = 2 * n ∧ (∀ j, j < n → V.slots[2 * j]? = some (.int (lo8 (f j))) ∧ V.slots[2 * j + 1]? = some (.int (hi8 (f j)))) ∧ ∃ j, j < n ∧ 255 < f j)
theorem Cod.cd {cd : Int32} {n : Nat} {f : Nat → Int32} {V : Cell} (h : Cod cd n f V) : cd = 0 ∨ cd = 1 := h.imp (fun q => q.1) fun q => q.1
theorem Cod.len {cd : Int32} {n : Nat} {f : Nat → Int32} {V : Cell} (h : Cod cd n f V) (hs : V.slots.size < 2 ^ 31) : Int32.ofNat V.slots.size >>> (cd &&& 31) = Int32.ofNat n := by
  rcases h with ⟨rfl, h, -⟩ | ⟨rfl, h, -⟩
  · rw [shr0, h]
  · rw [h, shr1 (by omega)]
/-- **x is a String of the n chars f 0 .. f (n - 1)**, Latin-1 or UTF-16; its array at t has the cell V -/
def Txt (x t : Addr) (V : Cell) (cd : Int32) (n : Nat) (f : Nat → Int32) (U : State) : Prop := Exact "java/lang/String" x U ∧ Has x "java/lang/String" "value" "[B" (.ref t) U ∧ Has x "java/lang/String" "coder" "B" (.int cd) U ∧ XT.Arr .byte t V U ∧ Cod cd n f V ∧ ∀ j, j < n → ¬ f j < 0 ∧ ¬ 65535 < f j
theorem Txt.mv {x t : Addr} {V : Cell} {cd : Int32} {n : Nat} {f : Nat → Int32} {U U' : State} (h : Txt x t V cd n f U) (hal : U.vm.Alike U'.vm) (hh : U'.heap = U.heap) : Txt x t V cd n f U' := ⟨h.1.mv hal hh, h.2.1.mv hal hh, h.2.2.1.mv hal hh, h.2.2.2.1.mv hal hh, h.2.2.2.2⟩
namespace Cdr
def yN : MethodName := ⟨"java/lang/String", "coder", "()B"⟩
abbrev yB : ByteArray := jdk_42_method_152_code
theorem d0 : decode yB 0 = .ok (.getstatic 38, 3) := by decide +kernel
theorem d3 : decode yB 3 = .ok (.ifCond (.eq) 10, 3) := by decide +kernel
theorem d6 : decode yB 6 = .ok (.aload_n 0, 1) := by decide +kernel
theorem d7 : decode yB 7 = .ok (.getfield 15, 3) := by decide +kernel
theorem d10 : decode yB 10 = .ok (.goto 4, 3) := by decide +kernel
theorem d14 : decode yB 14 = .ok (.ireturn, 1) := by decide +kernel
def site : List Cond := [.fieldLink "java/lang/String" 38 "java/lang/String" "COMPACT_STRINGS" "Z", .fieldLink "java/lang/String" 15 "java/lang/String" "coder" "B"]
def tab : Cond := tabOf yN yB 1 (some .byte) site
def P (x : Addr) (cd z : Int32) (args : Array Value) (s : State) : Prop := args = #[.ref x] ∧ Has x "java/lang/String" "coder" "B" (.int cd) s ∧ (cd = 0 ∨ cd = 1) ∧ StaticIs s "java/lang/String" "COMPACT_STRINGS" "Z" (.int z) ∧ ¬ z = 0
def E (cd : Int32) (r : Option Value) (s u : State) : Prop := XT.PureE (some (.int cd)) r s u
theorem law (l : Launch) (x : Addr) (cd z : Int32) : Law l yN 1 0 0 0 yB 1 (some .byte) site (P x cd z) (E cd) [] 0 0 := by
  refine Law.of_walk (plainFor_of_name (by decide +kernel)) (by decide +kernel) (by decide +kernel) (by decide) (fun _ _ h => by rw [h.1]; rfl) (fun _ U U' hal hh h => ⟨h.1, h.2.1.mv hal hh, h.2.2.1, h.2.2.2.1.there hal hh, h.2.2.2.2⟩) (fun r U U' V V' h1 hal h2 h => XT.PureE.mv r U U' V V' h1 hal h2 h) ?_
  intro p e s m args below meth c s₁ X0 hexec hbytes hml hret hlk hnm hown hh0 W hP
  obtain ⟨rfl, hx, hc, s1, hz⟩ := hP
  have c1 : Steps p.tables e below (s₁.setTop (entryFrame m #[.ref x] 1)) (s₁.setTop (mkF m 0 #[.val (.ref x)] [])) := entry rfl
  obtain ⟨T2, X2, q2, st2⟩ := X0.sget hexec hown (wk W (.fieldLink "java/lang/String" 38 "java/lang/String" "COMPACT_STRINGS" "Z")) s1 (fun _ _ h => by rw [hh0]; exact h) (g := (mkF m 0 #[.val (.ref x)] [])) rfl (hb hbytes d0)
  have hh2 := q2.trans hh0
  have c3 : Steps p.tables e below (s₁.setTop (entryFrame m #[.ref x] 1)) (T2.setTop (mkF m 7 #[.val (.ref x)] [.ref x])) := (c1.trans (st2 _ (Steps.refl _))).trans (by
    refine XS.ifNo X2.here hexec rfl (hb hbytes d3) rfl (i0_eq_f hz) ?_
    refine XS.aloadN X2.here hexec rfl (hb hbytes d6) rfl rfl ?_
    exact Steps.refl _)
  obtain ⟨T4, X4, q4, st4⟩ := X2.hget hexec hown (wk W (.fieldLink "java/lang/String" 15 "java/lang/String" "coder" "B")) (hx.mv X2.warmed.alike hh2) (g := (mkF m 7 #[.val (.ref x)] [.ref x])) rfl (rest := []) rfl (hb hbytes d7)
  have c5 : Steps p.tables e below (s₁.setTop (entryFrame m #[.ref x] 1)) (T4.setTop (mkF m 14 #[.val (.ref x)] [.int cd])) := (c3.trans (st4 _ (Steps.refl _))).trans (by
    refine XS.goto X4.here hexec rfl (pc0 := 10) rfl (hb hbytes d10) (by decide) rfl ?_
    exact Steps.refl _)
  exact ⟨T4, some (.int cd), _, _, _, X4, rfl, rfl, rfl, (fun h => by cases h), ⟨rfl, q4.trans hh2⟩, fun fs hl => c5.trans (X4.ireturnOut hexec hret (by rcases hc with rfl | rfl <;> rfl) (Or.inr (Or.inr (Or.inl rfl))) (hb hbytes d14) hl)⟩
end Cdr
namespace Len
def yN : MethodName := ⟨"java/lang/String", "length", "()I"⟩
abbrev yB : ByteArray := jdk_42_method_54_code
theorem d0 : decode yB 0 = .ok (.aload_n 0, 1) := by decide +kernel
theorem d1 : decode yB 1 = .ok (.getfield 9, 3) := by decide +kernel
theorem d4 : decode yB 4 = .ok (.arraylength, 1) := by decide +kernel
theorem d5 : decode yB 5 = .ok (.aload_n 0, 1) := by decide +kernel
theorem d6 : decode yB 6 = .ok (.invokevirtual 335, 3) := by decide +kernel
theorem d9 : decode yB 9 = .ok (.ishr, 1) := by decide +kernel
theorem d10 : decode yB 10 = .ok (.ireturn, 1) := by decide +kernel
def site : List Cond := [.fieldLink "java/lang/String" 9 "java/lang/String" "value" "[B", Cdr.tab] ++ virtW "java/lang/String" 335 "java/lang/String" Cdr.yN Cdr.yN
def tab : Cond := tabOf yN yB 1 (some .int) site
def P (x t : Addr) (V : Cell) (cd : Int32) (n : Nat) (f : Nat → Int32) (z : Int32) (args : Array Value) (s : State) : Prop := args = #[.ref x] ∧ Txt x t V cd n f s ∧ StaticIs s "java/lang/String" "COMPACT_STRINGS" "Z" (.int z) ∧ ¬ z = 0
def E (n : Nat) (r : Option Value) (s u : State) : Prop := XT.PureE (some (.int (Int32.ofNat n))) r s u
/-- length() of a String of n chars, in either coding -/
theorem law (l : Launch) (x t : Addr) (V : Cell) (cd : Int32) (n : Nat) (f : Nat → Int32) (z : Int32) : Law l yN 1 0 1 13 yB 1 (some .int) site (P x t V cd n f z) (E n) [] 0 0 := by
  refine Law.of_walk (plainFor_of_name (by decide +kernel)) (by decide +kernel) (by decide +kernel) (by decide) (fun _ _ h => by rw [h.1]; rfl) (fun _ U U' hal hh h => ⟨h.1, h.2.1.mv hal hh, h.2.2.1.there hal hh, h.2.2.2⟩) (fun r U U' V V' h1 hal h2 h => XT.PureE.mv r U U' V V' h1 hal h2 h) ?_
  intro p e s m args below meth c s₁ X0 hexec hbytes hml hret hlk hnm hown hh0 W hP
  obtain ⟨rfl, hx, s1, hz⟩ := hP
  have v31 := hx.2.2.2.1.2.2.2
  have c1 : Steps p.tables e below (s₁.setTop (entryFrame m #[.ref x] 1)) (s₁.setTop (mkF m 1 #[.val (.ref x)] [.ref x])) := Steps.trans (entry rfl) (by
    show Steps p.tables e below (s₁.setTop (mkF m 0 #[.val (.ref x)] [])) _
    refine XS.aloadN X0.here hexec rfl (hb hbytes d0) rfl rfl ?_
    exact Steps.refl _)
  obtain ⟨T2, X2, q2, st2⟩ := X0.hget hexec hown (wk W (.fieldLink "java/lang/String" 9 "java/lang/String" "value" "[B")) (hx.mv X0.warmed.alike hh0).2.1 (g := (mkF m 1 #[.val (.ref x)] [.ref x])) rfl (rest := []) rfl (hb hbytes d1)
  have hh2 := q2.trans hh0
  have hx2 := hx.mv X2.warmed.alike hh2
  have c3 : Steps p.tables e below (s₁.setTop (entryFrame m #[.ref x] 1)) (T2.setTop (mkF m 6 #[.val (.ref x)] [.ref x, .int (Int32.ofNat V.slots.size)])) := (c1.trans (st2 _ (Steps.refl _))).trans (by
    refine X2.alen hexec hx2.2.2.2.1 rfl rfl (hb hbytes d4) ?_
    refine XS.aloadN X2.here hexec rfl (hb hbytes d5) rfl rfl ?_
    exact Steps.refl _)
  obtain ⟨v4, T4, X4, E4, g4⟩ := X2.callV hexec (Cdr.law l x cd z) hown (wks W (virtW "java/lang/String" 335 "java/lang/String" Cdr.yN Cdr.yN)) rfl (by decide) (wk W Cdr.tab) (W := 1) (Nat.le_of_ble_eq_true rfl) (Nat.le_of_ble_eq_true rfl) (Nat.le_refl _) (Nat.le_refl _) (hx2.1.fc X2.warmed.alike) hx2.1.is (g := (mkF m 6 #[.val (.ref x)] [.ref x, .int (Int32.ofNat V.slots.size)])) rfl (by rw [hml]; rfl) c3 (argsL := []) (rest := [.int (Int32.ofNat V.slots.size)]) rfl rfl (by show 2 * 0 + (1 + 0) ≤ _; decide) (hb hbytes d6) (⟨rfl, hx2.2.2.1, hx.2.2.2.2.1.cd, s1.there X2.warmed.alike hh2, hz⟩)
  obtain ⟨rfl, q4⟩ := E4
  have c5 : Steps p.tables e below (s₁.setTop (entryFrame m #[.ref x] 1)) (T4.setTop (mkF m 10 #[.val (.ref x)] [.int (Int32.ofNat V.slots.size >>> (cd &&& 31))])) := Steps.trans g4 (by
    refine ishr X4.here hexec rfl (hb hbytes d9) rfl ?_
    exact Steps.refl _)
  rw [hx.2.2.2.2.1.len v31] at c5
  exact ⟨T4, some (.int (Int32.ofNat n)), _, _, _, X4, rfl, rfl, rfl, (fun h => by cases h), ⟨rfl, q4.trans hh2⟩, fun fs hl => c5.trans (X4.ireturnOut hexec hret rfl (Or.inl rfl) (hb hbytes d10) hl)⟩
theorem pays {l : Launch} {R : Room} {p : Program} {e : Env} {below : List Frame} {s : State} {sargs : Array Value} {len W : Nat} (x t : Addr) (V : Cell) (cd : Int32) (n : Nat) (f : Nat → Int32) (z : Int32) (htab : tab.before sargs s = true) (hfr : 2 ≤ R.frames) (hlo : W + 25 ≤ R.locals) :
    Back l R p e below s sargs yN len W (fun A₁ a₁ => A₁.cells + 0 ≤ R.cells ∧ A₁.slots + 0 ≤ R.slots ∧ P x t V cd n f z a₁ A₁.U) (fun A₁ _ v₁ B₁ => E n v₁ A₁.U B₁.U ∧ B₁.locs = A₁.locs ++ [] ∧ B₁.cells = A₁.cells + 0 ∧ B₁.slots = A₁.slots + 0) :=
  (law l x t V cd n f z).pays htab hfr (by omega)
end Len
namespace IsL
def yN : MethodName := ⟨"java/lang/String", "isLatin1", "()Z"⟩
abbrev yB : ByteArray := jdk_42_method_154_code
theorem d0 : decode yB 0 = .ok (.getstatic 38, 3) := by decide +kernel
theorem d3 : decode yB 3 = .ok (.ifCond (.eq) 14, 3) := by decide +kernel
theorem d6 : decode yB 6 = .ok (.aload_n 0, 1) := by decide +kernel
theorem d7 : decode yB 7 = .ok (.getfield 15, 3) := by decide +kernel
theorem d10 : decode yB 10 = .ok (.ifCond (.ne) 7, 3) := by decide +kernel
theorem d13 : decode yB 13 = .ok (.iconst 1, 1) := by decide +kernel
theorem d14 : decode yB 14 = .ok (.goto 4, 3) := by decide +kernel
theorem d17 : decode yB 17 = .ok (.iconst 0, 1) := by decide +kernel
theorem d18 : decode yB 18 = .ok (.ireturn, 1) := by decide +kernel
def site : List Cond := [.fieldLink "java/lang/String" 38 "java/lang/String" "COMPACT_STRINGS" "Z", .fieldLink "java/lang/String" 15 "java/lang/String" "coder" "B"]
def tab : Cond := tabOf yN yB 1 (some .boolean) site
def P (x : Addr) (cd z : Int32) (args : Array Value) (s : State) : Prop := args = #[.ref x] ∧ Has x "java/lang/String" "coder" "B" (.int cd) s ∧ (cd = 0 ∨ cd = 1) ∧ StaticIs s "java/lang/String" "COMPACT_STRINGS" "Z" (.int z) ∧ ¬ z = 0
def E (cd : Int32) (r : Option Value) (s u : State) : Prop := XT.PureE (some (.int (1 - cd))) r s u
theorem law (l : Launch) (x : Addr) (cd z : Int32) : Law l yN 1 0 0 0 yB 1 (some .boolean) site (P x cd z) (E cd) [] 0 0 := by
  refine Law.of_walk (plainFor_of_name (by decide +kernel)) (by decide +kernel) (by decide +kernel) (by decide) (fun _ _ h => by rw [h.1]; rfl) (fun _ U U' hal hh h => ⟨h.1, h.2.1.mv hal hh, h.2.2.1, h.2.2.2.1.there hal hh, h.2.2.2.2⟩) (fun r U U' V V' h1 hal h2 h => XT.PureE.mv r U U' V V' h1 hal h2 h) ?_
  intro p e s m args below meth c s₁ X0 hexec hbytes hml hret hlk hnm hown hh0 W hP
  obtain ⟨rfl, hx, hc, s1, hz⟩ := hP
  have c1 : Steps p.tables e below (s₁.setTop (entryFrame m #[.ref x] 1)) (s₁.setTop (mkF m 0 #[.val (.ref x)] [])) := entry rfl
  obtain ⟨T2, X2, q2, st2⟩ := X0.sget hexec hown (wk W (.fieldLink "java/lang/String" 38 "java/lang/String" "COMPACT_STRINGS" "Z")) s1 (fun _ _ h => by rw [hh0]; exact h) (g := (mkF m 0 #[.val (.ref x)] [])) rfl (hb hbytes d0)
  have hh2 := q2.trans hh0
  have c3 : Steps p.tables e below (s₁.setTop (entryFrame m #[.ref x] 1)) (T2.setTop (mkF m 7 #[.val (.ref x)] [.ref x])) := (c1.trans (st2 _ (Steps.refl _))).trans (by
    refine XS.ifNo X2.here hexec rfl (hb hbytes d3) rfl (i0_eq_f hz) ?_
    refine XS.aloadN X2.here hexec rfl (hb hbytes d6) rfl rfl ?_
    exact Steps.refl _)
  obtain ⟨T4, X4, q4, st4⟩ := X2.hget hexec hown (wk W (.fieldLink "java/lang/String" 15 "java/lang/String" "coder" "B")) (hx.mv X2.warmed.alike hh2) (g := (mkF m 7 #[.val (.ref x)] [.ref x])) rfl (rest := []) rfl (hb hbytes d7)
  have c5 : Steps p.tables e below (s₁.setTop (entryFrame m #[.ref x] 1)) (T4.setTop (mkF m 10 #[.val (.ref x)] [.int cd])) := c3.trans (st4 _ (Steps.refl _))
  have c6 : Steps p.tables e below (s₁.setTop (entryFrame m #[.ref x] 1)) (T4.setTop (mkF m 18 #[.val (.ref x)] [.int (1 - cd)])) := by
    rcases hc with rfl | rfl
    · exact c5.trans (by
        refine XS.ifNo X4.here hexec rfl (hb hbytes d10) rfl (i0_ne_f rfl) ?_
        refine iconstV X4.here hexec rfl 1 (hb hbytes d13) (by decide) ?_
        refine XS.goto X4.here hexec rfl (pc0 := 14) rfl (hb hbytes d14) (by decide) rfl ?_
        exact Steps.refl _)
    · exact c5.trans (by
        refine XS.ifYes X4.here hexec rfl (pc0 := 10) rfl (hb hbytes d10) rfl (i0_ne_t (by decide)) (by decide) rfl ?_
        refine iconstV X4.here hexec rfl 0 (hb hbytes d17) (by decide) ?_
        exact Steps.refl _)
  exact ⟨T4, some (.int (1 - cd)), _, _, _, X4, rfl, rfl, rfl, (fun h => by cases h), ⟨rfl, q4.trans hh2⟩, fun fs hl => c6.trans (X4.ireturnOut hexec hret (by rcases hc with rfl | rfl <;> rfl) (Or.inr (Or.inl rfl)) (hb hbytes d18) hl)⟩
end IsL
namespace LChA
def yN : MethodName := ⟨"java/lang/StringLatin1", "charAt", "([BI)C"⟩
abbrev yB : ByteArray := jdk_43_method_2_code
theorem d0 : decode yB 0 = .ok (.iload_n 1, 1) := by decide +kernel
theorem d1 : decode yB 1 = .ok (.aload_n 0, 1) := by decide +kernel
theorem d2 : decode yB 2 = .ok (.arraylength, 1) := by decide +kernel
theorem d3 : decode yB 3 = .ok (.invokestatic 9, 3) := by decide +kernel
theorem d6 : decode yB 6 = .ok (.aload_n 0, 1) := by decide +kernel
theorem d7 : decode yB 7 = .ok (.iload_n 1, 1) := by decide +kernel
theorem d8 : decode yB 8 = .ok (.baload, 1) := by decide +kernel
theorem d9 : decode yB 9 = .ok (.sipush 255, 3) := by decide +kernel
theorem d12 : decode yB 12 = .ok (.iand, 1) := by decide +kernel
theorem d13 : decode yB 13 = .ok (.i2c, 1) := by decide +kernel
theorem d14 : decode yB 14 = .ok (.ireturn, 1) := by decide +kernel
def site : List Cond := [JO.Str_checkIndex.tab] ++ staticW "java/lang/StringLatin1" 9 JO.Str_checkIndex.yN
def tab : Cond := tabOf yN yB 2 (some .char) site
def P (t : Addr) (V : Cell) (i : Nat) (u : Int32) (fm : Value) (args : Array Value) (s : State) : Prop := args = #[.ref t, .int (Int32.ofNat i)] ∧ XT.Arr .byte t V s ∧ V.slots[i]? = some (.int u) ∧ (StaticIs s "jdk/internal/util/Preconditions" "SIOOBE_FORMATTER" "Ljava/util/function/BiFunction;" fm ∧ fm.isRef = true)
def E (u : Int32) (r : Option Value) (s w : State) : Prop := XT.PureE (some (.int (chr8 u))) r s w
theorem law (l : Launch) (t : Addr) (V : Cell) (i : Nat) (u : Int32) (fm : Value) : Law l yN 2 2 2 27 yB 2 (some .char) site (P t V i u fm) (E u) [] 0 0 := by
  refine Law.of_walk (plainFor_of_name (by decide +kernel)) (by decide +kernel) (by decide +kernel) (by decide) (fun _ _ h => by rw [h.1]; rfl) (fun _ U U' hal hh h => ⟨h.1, h.2.1.mv hal hh, h.2.2.1, h.2.2.2.1.there hal hh, h.2.2.2.2⟩) (fun r U U' V V' h1 hal h2 h => XT.PureE.mv r U U' V V' h1 hal h2 h) ?_
  intro p e s m args below meth c s₁ X0 hexec hbytes hml hret hlk hnm hown hh0 W hP
  obtain ⟨rfl, hV, hu, s1, rf⟩ := hP
  have v31 := hV.2.2.2
  have hi : i < V.slots.size := (Array.getElem?_eq_some_iff.mp hu).1
  have c1 : Steps p.tables e below (s₁.setTop (entryFrame m #[.ref t, .int (Int32.ofNat i)] 2)) (s₁.setTop (mkF m 0 #[.val (.ref t), .val (.int (Int32.ofNat i))] [])) := entry rfl
  have c2 : Steps p.tables e below (s₁.setTop (entryFrame m #[.ref t, .int (Int32.ofNat i)] 2)) (s₁.setTop (mkF m 3 #[.val (.ref t), .val (.int (Int32.ofNat i))] [.int (Int32.ofNat V.slots.size), .int (Int32.ofNat i)])) := c1.trans (by
    refine XS.iloadN X0.here hexec rfl (hb hbytes d0) rfl ?_
    refine XS.aloadN X0.here hexec rfl (hb hbytes d1) rfl rfl ?_
    refine X0.alen hexec (hV.mv X0.warmed.alike hh0) rfl rfl (hb hbytes d2) ?_
    exact Steps.refl _)
  obtain ⟨v3, T3, X3, E3, g3⟩ := X0.callS hexec (JO.Str_checkIndex.law l (Int32.ofNat i) (Int32.ofNat V.slots.size) fm) hown (wks W (staticW "java/lang/StringLatin1" 9 JO.Str_checkIndex.yN)) (wk W JO.Str_checkIndex.tab) (W := 0) (Nat.le_of_ble_eq_true rfl) (Nat.le_of_ble_eq_true rfl) (Nat.le_refl _) (Nat.le_refl _) (g := (mkF m 3 #[.val (.ref t), .val (.int (Int32.ofNat i))] [.int (Int32.ofNat V.slots.size), .int (Int32.ofNat i)])) rfl (by rw [hml]; rfl) c2 (argsL := [.int (Int32.ofNat i), .int (Int32.ofNat V.slots.size)]) (rest := []) rfl rfl (by show 2 * 0 + 0 ≤ _; decide) (hb hbytes d3) (⟨rfl, rf, s1.there X0.warmed.alike hh0, Int32.ofNat_not_neg (by omega), lt32 v31 hi⟩)
  obtain ⟨rfl, q3⟩ := E3
  have hh3 := q3.trans hh0
  have c4 : Steps p.tables e below (s₁.setTop (entryFrame m #[.ref t, .int (Int32.ofNat i)] 2)) (T3.setTop (mkF m 14 #[.val (.ref t), .val (.int (Int32.ofNat i))] [.int (chr8 u)])) := Steps.trans g3 (by
    refine XS.aloadN X3.here hexec rfl (hb hbytes d6) rfl rfl ?_
    refine XS.iloadN X3.here hexec rfl (hb hbytes d7) rfl ?_
    refine X3.aget hexec (hV.mv X3.warmed.alike hh3) rfl hu rfl rfl (hb hbytes d8) ?_
    refine sipushV X3.here hexec rfl 255 (hb hbytes d9) (by decide) ?_
    refine XS.iand X3.here hexec rfl (hb hbytes d12) rfl ?_
    refine i2c X3.here hexec rfl (hb hbytes d13) rfl ?_
    exact Steps.refl _)
  exact ⟨T3, some (.int (chr8 u)), _, _, _, X3, rfl, rfl, rfl, (fun h => by cases h), ⟨rfl, hh3⟩, fun fs hl => c4.trans (X3.ireturnOut hexec hret (narrow_c _) (Or.inr (Or.inr (Or.inr (Or.inl rfl)))) (hb hbytes d14) hl)⟩
end LChA
end StrChars
namespace StrChars.Road
open Jvm Sem ClassFile Op Lib Jvm.Stand Jvm.Free Jvm.Free.XT
open Jvm.Lib.Cold (StaticIs)
theorem consq {a : Array Value} {s : State} {c : Jvm.Cond} {L : List Jvm.Cond} (h0 : c.before a s = true) (h : ∀ w ∈ L, w.before a s = true) : ∀ w ∈ c :: L, w.before a s = true := fun w hw => (List.mem_cons.mp hw).elim (fun e => e ▸ h0) (h w)
/-- the words of String.length(), either coding -/
abbrev wordsLen : List Jvm.Cond := [.code Len.yN Len.yB 1 (some .int), .initialized ST, .fieldLink ST 9 ST "value" "[B", .fieldLink ST 38 ST "COMPACT_STRINGS" "Z", .fieldLink ST 15 ST "coder" "B", .code Cdr.yN Cdr.yB 1 (some .byte), .methodLink ST 335 Cdr.yN, .declares Cdr.yN, .selects ST Cdr.yN Cdr.yN, .instanceMethod Cdr.yN]
theorem tabLen_of {a : Array Value} {s : State} (h : ∀ w ∈ wordsLen, w.before a s = true) : Len.tab.before a s = true := by
  have hc : Cdr.tab.before a s = true := unparts (wk h (.code Cdr.yN Cdr.yB 1 (some .byte))) (wks h (.initialized Cdr.yN.cls :: Cdr.site))
  have q := consq hc h
  exact unparts (wk q (.code Len.yN Len.yB 1 (some .int))) (wks q (.initialized Len.yN.cls :: Len.site))
theorem movedLen {Z s : State} {a0 args : Array Value} (hZ : Z.Warmed39 s.vm) (hw : ∀ d ∈ wordsLen, d.before a0 Z = true) : ∀ d ∈ wordsLen, d.before args s = true := fun d hd => by
  have q := hw d hd
  have t : ∀ d ∈ wordsLen, d = .arrayClass .byte ∨ (d.onTables && d.keepsFace) = true := by decide +kernel
  rcases t d hd with rfl | t
  · exact RoadKit.mvA hZ q
  · exact RoadKit.mv hZ q t
/-- the bytes of the chars cs, low before high -/
def wideBytes : List Int32 → List Value
  | [] => []
  | c :: cs => .int (lo8 c) :: .int (hi8 c) :: wideBytes cs
theorem wide_lo (d : Value) : ∀ (cs : List Int32) (j : Nat), j < cs.length → (wideBytes cs).getD (2 * j) d = .int (lo8 (cs.getD j 0))
  | [], j, h => absurd h (Nat.not_lt_zero j)
  | c :: cs, 0, _ => rfl
  | c :: cs, j + 1, h => by
    have q := wide_lo d cs j (by simpa using h)
    rw [show 2 * (j + 1) = 2 * j + 1 + 1 from by omega]
    simpa [wideBytes] using q
theorem wide_hi (d : Value) : ∀ (cs : List Int32) (j : Nat), j < cs.length → (wideBytes cs).getD (2 * j + 1) d = .int (hi8 (cs.getD j 0))
  | [], j, h => absurd h (Nat.not_lt_zero j)
  | c :: cs, 0, _ => rfl
  | c :: cs, j + 1, h => by
    have q := wide_hi d cs j (by simpa using h)
    rw [show 2 * (j + 1) + 1 = 2 * j + 1 + 1 + 1 from by omega]
    simpa [wideBytes] using q
theorem low_at (d : Value) (cs : List Int32) (j : Nat) (h : j < cs.length) : (cs.map fun c => Value.int (lo8 c)).getD j d = .int (lo8 (cs.getD j 0)) := by
  simp [List.getD_eq_getElem?_getD, h]
/-- an array of N2 bytes vs codes the chars cs by the coder cd -/
def CodA (cs : List Int32) (cd N2 : Int32) (vs : List Value) : Prop := (cd = 0 ∧ N2 = Int32.ofNat cs.length ∧ vs = (cs.map fun c => Value.int (lo8 c)) ∧ ∀ c ∈ cs, ¬ 255 < c) ∨ (cd = 1 ∧ N2 = Int32.ofNat (2 * cs.length) ∧ vs = wideBytes cs ∧ ∃ c ∈ cs, 255 < c)
theorem CodA.cod {cs : List Int32} {cd N2 : Int32} {vs : List Value} {V : Cell} (h : CodA cs cd N2 vs) (hn : 2 * cs.length < 2 ^ 31) (hs : V.slots.size = N2.toNatClampNeg) (hv : RoadKit.Has V vs (.int 0)) : Cod cd cs.length (fun j => cs.getD j 0) V := by
  rcases h with ⟨rfl, rfl, rfl, h⟩ | ⟨rfl, rfl, rfl, c, hc, hw⟩
  · rw [n32 (by omega)] at hs
    exact Or.inl ⟨rfl, hs, fun j hj => ⟨by rw [hv j (by omega), low_at _ _ _ hj], by
      have e : cs.getD j 0 = cs[j] := by simp [List.getD_eq_getElem?_getD, hj]
      show ¬ 255 < cs.getD j 0
      rw [e]; exact h _ (List.getElem_mem _)⟩⟩
  · rw [n32 (by omega)] at hs
    obtain ⟨j, hj, rfl⟩ := List.getElem_of_mem hc
    exact Or.inr ⟨rfl, hs, fun j hj => ⟨by rw [hv _ (by omega), wide_lo _ _ _ hj], by rw [hv _ (by omega), wide_hi _ _ _ hj]⟩, j, hj, by
      have e : cs.getD j 0 = cs[j] := by simp [List.getD_eq_getElem?_getD, hj]
      show 255 < cs.getD j 0
      rw [e]; exact hw⟩
/-- an object of exactly java/lang/String, its two fields found: as the laws ask it -/
theorem strObj {Z U : State} {a0 : Array Value} {kI : Nat} (wi : (Jvm.Cond.instantiable ST kI).before a0 Z = true) (al : Z.vm.Alike U.vm) {x : Addr} {v0 c0 : Value} (E : RoadKit.Exa Z U.heap x ST) (V : RoadKit.Fld Z U.heap x ST "value" "[B" v0) (C : RoadKit.Fld Z U.heap x ST "coder" "B" c0) :
    ∃ (D : Cell) (fV fC : Field), Blank ST x D U ∧ Found ST "value" "[B" fV U ∧ Found ST "coder" "B" fC U ∧ D.slots[fV.slot]? = some v0 ∧ D.slots[fC.slot]? = some c0 ∧ RoadKit.slotOf Z ST "value" "[B" = fV.slot ∧ RoadKit.slotOf Z ST "coder" "B" = fC.slot := by
  obtain ⟨D, cfV, kV, iV, fV, hD, gV, stV, knV, obV, asV, slV⟩ := V
  obtain ⟨D', cfC, kC, iC, fC, hD', gC, stC, -, -, asC, slC⟩ := C
  cases hD.symm.trans hD'
  obtain ⟨D2, kD, e1, e2, e3, e4, e5⟩ := E
  cases hD.symm.trans e1
  obtain ⟨c2, k2, i1, i2, i3, -⟩ := Cond.instantiable_spec wi
  cases e2.symm.trans i1
  cases e3.symm.trans i2
  obtain ⟨kU, u1, u2⟩ := al.2.2 _ _ e3
  exact ⟨D, fV, fC, ⟨hD, ⟨knV, fun q hq => by rw [hq] at obV; cases obV⟩, by rw [al.findClass]; exact e2, kU, u1, by rw [u2]; exact i3, by rw [u2]; exact e5 i3⟩, ⟨SBG.found_only al ⟨cfV, kV, iV, gV⟩, stV⟩, ⟨SBG.found_only al ⟨cfC, kC, iC, gC⟩, stC⟩, slV, slC, by simp [RoadKit.slotOf, gV], by simp [RoadKit.slotOf, gC]⟩
theorem sta_is {Z U : State} (al : Z.vm.Alike U.vm) {C n d : String} {v : Value} (S : RoadKit.Sta Z U.heap C n d v) : StaticIs U C n d v := by
  obtain ⟨cfS, iS, kS, fS, st, cS, t1, t2, t3, t4, t5, t6, t7⟩ := S
  exact StaticIs.there (s := { Z with heap := U.heap }) ⟨cfS, iS, kS, fS, st, cS, t1, t2, t3, t4, t5, (fun q => by rw [q] at t6; cases t6), t7⟩ al rfl
/-- **length() OF SUCH A STRING** -/
theorem lenW {p : Program} {l : Launch} {e : Env} {R : Room} {s : State} {args : Array Value} {below : List Frame} {len W : Nat} {Z : State} {a0 : Array Value} {h : Heap} (hZ : Z.Warmed39 s.vm) (hw : ∀ d ∈ wordsLen, d.before a0 Z = true) {kI : Nat} (wi : (Jvm.Cond.instantiable ST kI).before a0 Z = true)
    {x t : Addr} {kb : ClassId} {cs : List Int32} {cd N2 z : Int32} {vs : List Value} (E : RoadKit.Exa Z h x ST) (V : RoadKit.Fld Z h x ST "value" "[B" (.ref t)) (C : RoadKit.Fld Z h x ST "coder" "B" (.int cd)) (K : RoadKit.Arv Z h t kb .byte N2 vs (.int 0)) (hc : CodA cs cd N2 vs) (hb : ∀ c ∈ cs, ¬ c < 0 ∧ ¬ (65535 : Int32) < c)
    (S : RoadKit.Sta Z h ST "COMPACT_STRINGS" "Z" (.int z)) (hz : ¬ z = 0) (l2 : cs.length ≤ 4000) (hfr : 2 ≤ R.frames) (hlo : W + 25 ≤ R.locals) :
    Back l R p e below s args (⟨"java/lang/String", "length", "()I"⟩ : MethodName) len W (fun P a => a = #[.ref x] ∧ P.U.heap = h ∧ P.cells + 0 ≤ R.cells ∧ P.slots + 0 ≤ R.slots)
      (fun P _ v B => ∃ L, (v = some (.int (Int32.ofNat cs.length)) ∧ L = [] ∧ B.U.heap = h) ∧ B.locs = P.locs ++ L ∧ B.cells = P.cells + 0 ∧ B.slots = P.slots + 0) := by
  obtain ⟨A, K1, K2, K3, K4, K5, K6⟩ := K
  have hcod := hc.cod (by omega) K3 K5
  intro m meth c P g ig mk a X hg hsize hdg hW hn hp'
  obtain ⟨rfl, rfl, r1, r2⟩ := hp'
  have al : Z.vm.Alike P.U.vm := hZ.alike.trans X.warmed.alike
  obtain ⟨D, fV, fC, hB, F1, F2, g1, g2, -, -⟩ := strObj wi al E V C
  have hx : Txt x t A cd cs.length (fun j => cs.getD j 0) P.U := ⟨⟨_, hB.2.2.1, D, hB.1, rfl, by cases q : D.vm <;> first | rfl | exact absurd q (hB.2.1.2 _)⟩, Has.of hB F1 g1, Has.of hB F2 g2, ⟨K1.1, State.isArrayOf_alike al K1.2.1, K1.2.2, by rcases hcod with ⟨-, q, -⟩ | ⟨-, q, -⟩ <;> omega⟩, hcod, fun j hj => by
    have e : cs.getD j 0 = cs[j] := by simp [List.getD_eq_getElem?_getD, hj]
    show ¬ cs.getD j 0 < 0 ∧ ¬ 65535 < cs.getD j 0
    rw [e]; exact hb _ (List.getElem_mem _)⟩
  obtain ⟨v, B, X', ⟨⟨hv, hh⟩, hl, hk, hs⟩, st⟩ := Len.pays x t A cd cs.length (fun j => cs.getD j 0) z (tabLen_of (movedLen hZ hw)) hfr hlo m meth c P g ig mk _ X hg hsize hdg hW hn ⟨r1, r2, rfl, hx, sta_is al S, hz⟩
  exact ⟨v, B, X', ⟨[], ⟨hv, rfl, hh⟩, hl, hk, hs⟩, st⟩
end StrChars.Road
namespace StrChars
open Jvm Sem ClassFile Op Lib Jvm.Stand Jvm.Free.XT Jvm.Free.ALB Jvm.Free.JM Jvm.Free
open Jvm.Lib.Cold (StaticIs)
/-- what place i of a byte[]'s cell holds -/
def yv (A : Cell) (i : Nat) : Int32 := match A.slots[i]? with | some (.int x) => x | _ => 0
theorem yv_get {a : Addr} {A : Cell} {U : State} (h : XT.Arr .byte a A U) (ht : Typed .byte A) {i : Nat} (hi : i < A.slots.size) : A.slots[i]? = some (.int (yv A i)) := by
  have e := Array.getElem?_eq_getElem hi
  have f := ht i _ e
  unfold yv; rw [e]
  generalize A.slots[i] = v at f
  cases v <;> simp [fits] at f ⊢
/-- the two arrays are equal, place for place -/
def EqC (A B : Cell) : Prop := A.slots.size = B.slots.size ∧ ∀ i, i < A.slots.size → yv A i = yv B i
/-- a boolean that says whether p -/
def Says01 (q : Prop) (r : Option Value) (s u : State) : Prop := ∃ v : Int32, r = some (.int v) ∧ u.heap = s.heap ∧ ((v = 1 ∧ q) ∨ (v = 0 ∧ ¬ q))
theorem Says01.mv {q : Prop} : ∀ r (U U' V V' : State), U'.heap = U.heap → V.vm.Alike V'.vm → V'.heap = V.heap → Says01 q r U V → Says01 q r U' V' :=
  fun r U U' V V' h1 _ h2 ⟨v, a, b, c⟩ => ⟨v, a, by rw [h1, h2]; exact b, c⟩
namespace LEq
def yN : MethodName := ⟨"java/lang/StringLatin1", "equals", "([B[B)Z"⟩
abbrev yB : ByteArray := jdk_43_method_13_code
theorem d0 : decode yB 0 = .ok (.aload_n 0, 1) := by decide +kernel
theorem d1 : decode yB 1 = .ok (.arraylength, 1) := by decide +kernel
theorem d2 : decode yB 2 = .ok (.aload_n 1, 1) := by decide +kernel
theorem d3 : decode yB 3 = .ok (.arraylength, 1) := by decide +kernel
theorem d4 : decode yB 4 = .ok (.if_icmp (.ne) 30, 3) := by decide +kernel
theorem d7 : decode yB 7 = .ok (.iconst 0, 1) := by decide +kernel
theorem d8 : decode yB 8 = .ok (.istore_n 2, 1) := by decide +kernel
theorem d9 : decode yB 9 = .ok (.iload_n 2, 1) := by decide +kernel
theorem d10 : decode yB 10 = .ok (.aload_n 0, 1) := by decide +kernel
theorem d11 : decode yB 11 = .ok (.arraylength, 1) := by decide +kernel
theorem d12 : decode yB 12 = .ok (.if_icmp (.ge) 20, 3) := by decide +kernel
theorem d15 : decode yB 15 = .ok (.aload_n 0, 1) := by decide +kernel
theorem d16 : decode yB 16 = .ok (.iload_n 2, 1) := by decide +kernel
theorem d17 : decode yB 17 = .ok (.baload, 1) := by decide +kernel
theorem d18 : decode yB 18 = .ok (.aload_n 1, 1) := by decide +kernel
theorem d19 : decode yB 19 = .ok (.iload_n 2, 1) := by decide +kernel
theorem d20 : decode yB 20 = .ok (.baload, 1) := by decide +kernel
theorem d21 : decode yB 21 = .ok (.if_icmp (.eq) 5, 3) := by decide +kernel
theorem d24 : decode yB 24 = .ok (.iconst 0, 1) := by decide +kernel
theorem d25 : decode yB 25 = .ok (.ireturn, 1) := by decide +kernel
theorem d26 : decode yB 26 = .ok (.iinc 2 1, 3) := by decide +kernel
theorem d29 : decode yB 29 = .ok (.goto (-20), 3) := by decide +kernel
theorem d32 : decode yB 32 = .ok (.iconst 1, 1) := by decide +kernel
theorem d33 : decode yB 33 = .ok (.ireturn, 1) := by decide +kernel
theorem d34 : decode yB 34 = .ok (.iconst 0, 1) := by decide +kernel
theorem d35 : decode yB 35 = .ok (.ireturn, 1) := by decide +kernel
def site : List Cond := []
def tab : Cond := tabOf yN yB 3 (some .boolean) site
def P (a : Addr) (A : Cell) (b : Addr) (B : Cell) (args : Array Value) (s : State) : Prop := args = #[.ref a, .ref b] ∧ XT.Arr .byte a A s ∧ Typed .byte A ∧ XT.Arr .byte b B s ∧ Typed .byte B
/-- whether two byte[] are equal, place for place -/
theorem law (l : Launch) (a : Addr) (A : Cell) (b : Addr) (B : Cell) : Law l yN 2 2 0 0 yB 3 (some .boolean) site (P a A b B) (Says01 (EqC A B)) [] 0 0 := by
  refine Law.of_walk (plainFor_of_name (by decide +kernel)) (by decide +kernel) (by decide +kernel) (by decide) (fun _ _ h => by rw [h.1]; rfl) (fun _ U U' hal hh h => ⟨h.1, h.2.1.mv hal hh, h.2.2.1, h.2.2.2.1.mv hal hh, h.2.2.2.2⟩) (fun r U U' V V' h1 hal h2 h => Says01.mv r U U' V V' h1 hal h2 h) ?_
  intro p e s m args below meth c s₁ X0 hexec hbytes hml hret hlk hnm hown hh0 W hP
  obtain ⟨rfl, hA, tA, hB, tB⟩ := hP
  have a31 := hA.2.2.2
  have b31 := hB.2.2.2
  have hA0 := hA.mv X0.warmed.alike hh0
  have hB0 := hB.mv X0.warmed.alike hh0
  have c1 : Steps p.tables e below (s₁.setTop (entryFrame m #[.ref a, .ref b] 3)) (s₁.setTop (mkF m 0 #[.val (.ref a), .val (.ref b), .unset] [])) := entry rfl
  have c2 : Steps p.tables e below (s₁.setTop (entryFrame m #[.ref a, .ref b] 3)) (s₁.setTop (mkF m 4 #[.val (.ref a), .val (.ref b), .unset] [.int (Int32.ofNat B.slots.size), .int (Int32.ofNat A.slots.size)])) := c1.trans (by
    refine XS.aloadN X0.here hexec rfl (hb hbytes d0) rfl rfl ?_
    refine X0.alen hexec hA0 rfl rfl (hb hbytes d1) ?_
    refine XS.aloadN X0.here hexec rfl (hb hbytes d2) rfl rfl ?_
    refine X0.alen hexec hB0 rfl rfl (hb hbytes d3) ?_
    exact Steps.refl _)
  by_cases hs : A.slots.size = B.slots.size
  · have c3 : Steps p.tables e below (s₁.setTop (entryFrame m #[.ref a, .ref b] 3)) (s₁.setTop (mkF m 9 #[.val (.ref a), .val (.ref b), .val (.int 0)] [])) := c2.trans (by
      refine XS.icmpNo X0.here hexec rfl (hb hbytes d4) rfl (ii_ne_f (by rw [hs])) ?_
      refine iconstV X0.here hexec rfl 0 (hb hbytes d7) (by decide) ?_
      refine XS.istoreN X0.here hexec rfl (hb hbytes d8) rfl rfl ?_
      exact Steps.refl _)
    have loop : ∀ (r i : Nat), i + r = A.slots.size → (∀ j, j < i → yv A j = yv B j) → Steps p.tables e below (s₁.setTop (entryFrame m #[.ref a, .ref b] 3)) (s₁.setTop (mkF m 9 #[.val (.ref a), .val (.ref b), .val (.int (Int32.ofNat i))] [])) → ∃ (pc : Nat) (Ls : Array Slot) (v : Int32), (pc = 25 ∨ pc = 33) ∧ ((v = 1 ∧ EqC A B) ∨ (v = 0 ∧ ¬ EqC A B)) ∧ Steps p.tables e below (s₁.setTop (entryFrame m #[.ref a, .ref b] 3)) (s₁.setTop (mkF m pc Ls [.int v])) := by
      intro r
      induction r with
      | zero =>
        intro i hi he cl
        exact ⟨33, _, 1, Or.inr rfl, Or.inl ⟨rfl, hs, fun j hj => he j (by omega)⟩, cl.trans (by
          refine XS.iloadN X0.here hexec rfl (hb hbytes d9) rfl ?_
          refine XS.aloadN X0.here hexec rfl (hb hbytes d10) rfl rfl ?_
          refine X0.alen hexec hA0 rfl rfl (hb hbytes d11) ?_
          refine XS.icmpYes X0.here hexec rfl (pc0 := 12) rfl (hb hbytes d12) rfl (ii_ge_t (nlt32 (by omega) (by omega))) (by decide) rfl ?_
          refine iconstV X0.here hexec rfl 1 (hb hbytes d32) (by decide) ?_
          exact Steps.refl _)⟩
      | succ r ih =>
        intro i hi he cl
        have c4 : Steps p.tables e below (s₁.setTop (entryFrame m #[.ref a, .ref b] 3)) (s₁.setTop (mkF m 21 #[.val (.ref a), .val (.ref b), .val (.int (Int32.ofNat i))] [.int (yv B i), .int (yv A i)])) := cl.trans (by
          refine XS.iloadN X0.here hexec rfl (hb hbytes d9) rfl ?_
          refine XS.aloadN X0.here hexec rfl (hb hbytes d10) rfl rfl ?_
          refine X0.alen hexec hA0 rfl rfl (hb hbytes d11) ?_
          refine XS.icmpNo X0.here hexec rfl (hb hbytes d12) rfl (ii_ge_f (lt32 (by omega) (by omega))) ?_
          refine XS.aloadN X0.here hexec rfl (hb hbytes d15) rfl rfl ?_
          refine XS.iloadN X0.here hexec rfl (hb hbytes d16) rfl ?_
          refine X0.aget hexec hA0 rfl (yv_get hA tA (i := i) (by omega)) rfl rfl (hb hbytes d17) ?_
          refine XS.aloadN X0.here hexec rfl (hb hbytes d18) rfl rfl ?_
          refine XS.iloadN X0.here hexec rfl (hb hbytes d19) rfl ?_
          refine X0.aget hexec hB0 rfl (yv_get hB tB (i := i) (by omega)) rfl rfl (hb hbytes d20) ?_
          exact Steps.refl _)
        by_cases hv : yv A i = yv B i
        · have c5 : Steps p.tables e below (s₁.setTop (entryFrame m #[.ref a, .ref b] 3)) (s₁.setTop (mkF m 9 #[.val (.ref a), .val (.ref b), .val (.int (Int32.ofNat i + 1))] [])) := c4.trans (by
            refine XS.icmpYes X0.here hexec rfl (pc0 := 21) rfl (hb hbytes d21) rfl (ii_eq_t hv) (by decide) rfl ?_
            refine iincV X0.here hexec rfl 1 (hb hbytes d26) (by decide) rfl rfl ?_
            refine XS.goto X0.here hexec rfl (pc0 := 29) rfl (hb hbytes d29) (by decide) rfl ?_
            exact Steps.refl _)
          rw [succ32] at c5
          exact ih (i + 1) (by omega) (fun j hj => by
            by_cases e : j = i
            · rw [e]; exact hv
            · exact he j (by omega)) c5
        · exact ⟨25, _, 0, Or.inl rfl, Or.inr ⟨rfl, fun q => hv (q.2 i (by omega))⟩, c4.trans (by
            refine XS.icmpNo X0.here hexec rfl (hb hbytes d21) rfl (ii_eq_f hv) ?_
            refine iconstV X0.here hexec rfl 0 (hb hbytes d24) (by decide) ?_
            exact Steps.refl _)⟩
    obtain ⟨pc, Ls, v, hpc, hv, cz⟩ := loop A.slots.size 0 (by omega) (fun j hj => absurd hj (Nat.not_lt_zero j)) c3
    have nv : narrow .boolean (.int v) = .int v := by rcases hv with ⟨rfl, -⟩ | ⟨rfl, -⟩ <;> rfl
    rcases hpc with rfl | rfl
    · exact ⟨s₁, some (.int v), _, _, _, X0, rfl, rfl, rfl, (fun h => by cases h), ⟨v, rfl, hh0, hv⟩, fun fs hl => cz.trans (X0.ireturnOut hexec hret nv (Or.inr (Or.inl rfl)) (hb hbytes d25) hl)⟩
    · exact ⟨s₁, some (.int v), _, _, _, X0, rfl, rfl, rfl, (fun h => by cases h), ⟨v, rfl, hh0, hv⟩, fun fs hl => cz.trans (X0.ireturnOut hexec hret nv (Or.inr (Or.inl rfl)) (hb hbytes d33) hl)⟩
  · have c3 : Steps p.tables e below (s₁.setTop (entryFrame m #[.ref a, .ref b] 3)) (s₁.setTop (mkF m 35 #[.val (.ref a), .val (.ref b), .unset] [.int 0])) := c2.trans (by
      refine XS.icmpYes X0.here hexec rfl (pc0 := 4) rfl (hb hbytes d4) rfl (ii_ne_t (ne32 a31 b31 hs)) (by decide) rfl ?_
      refine iconstV X0.here hexec rfl 0 (hb hbytes d34) (by decide) ?_
      exact Steps.refl _)
    exact ⟨s₁, some (.int 0), _, _, _, X0, rfl, rfl, rfl, (fun h => by cases h), ⟨0, rfl, hh0, Or.inr ⟨rfl, fun q => hs q.1⟩⟩, fun fs hl => c3.trans (X0.ireturnOut hexec hret rfl (Or.inr (Or.inl rfl)) (hb hbytes d35) hl)⟩
end LEq
theorem Cod.ty {cd : Int32} {n : Nat} {f : Nat → Int32} {V : Cell} (h : Cod cd n f V) : Typed .byte V := fun i v hv => by
  have hi : i < V.slots.size := (Array.getElem?_eq_some_iff.mp hv).1
  rcases h with ⟨-, k1, k2⟩ | ⟨-, k1, k2, -⟩
  · rw [(k2 i (by omega)).1] at hv; cases hv; exact fits_lo8 _
  · rcases Nat.mod_two_eq_zero_or_one i with e | e
    · obtain ⟨j, rfl⟩ : ∃ j, i = 2 * j := ⟨i / 2, by omega⟩
      rw [(k2 j (by omega)).1] at hv; cases hv; exact fits_lo8 _
    · obtain ⟨j, rfl⟩ : ∃ j, i = 2 * j + 1 := ⟨i / 2, by omega⟩
      rw [(k2 j (by omega)).2] at hv; cases hv; exact fits_lo8 _
/-- the same text -/
def SameT (n : Nat) (f : Nat → Int32) (k : Nat) (g : Nat → Int32) : Prop := n = k ∧ ∀ j, j < n → f j = g j
theorem lo8_inj {x y : Int32} (h0 : ¬ x < 0) (h1 : ¬ 255 < x) (k0 : ¬ y < 0) (k1 : ¬ 255 < y) (h : lo8 x = lo8 y) : x = y := by
  rw [← lo8_mask h0 h1, ← lo8_mask k0 k1, h]
/-- arrays coded by one coder are equal just where the texts are -/
theorem Cod.eqv {cd : Int32} {n k : Nat} {f g : Nat → Int32} {V V' : Cell} (h : Cod cd n f V) (h' : Cod cd k g V') (hf : ∀ j, j < n → ¬ f j < 0 ∧ ¬ 65535 < f j) (hg : ∀ j, j < k → ¬ g j < 0 ∧ ¬ 65535 < g j) : EqC V V' ↔ SameT n f k g := by
  have yvv : ∀ {W : Cell} {i : Nat} {x : Int32}, W.slots[i]? = some (.int x) → yv W i = x := fun q => by unfold yv; rw [q]
  rcases h with ⟨rfl, k1, k2⟩ | ⟨rfl, k1, k2, -⟩
  · rcases h' with ⟨-, m1, m2⟩ | ⟨e, -⟩
    · constructor
      · rintro ⟨e1, e2⟩
        refine ⟨by omega, fun j hj => ?_⟩
        have q := e2 j (by omega)
        rw [yvv (k2 j hj).1, yvv (m2 j (by omega)).1] at q
        exact lo8_inj (hf j hj).1 (k2 j hj).2 (hg j (by omega)).1 (m2 j (by omega)).2 q
      · rintro ⟨rfl, e2⟩
        refine ⟨by omega, fun j hj => ?_⟩
        rw [yvv (k2 j (by omega)).1, yvv (m2 j (by omega)).1, e2 j (by omega)]
    · exact absurd e (by decide)
  · rcases h' with ⟨e, -⟩ | ⟨-, m1, m2, -⟩
    · exact absurd e (by decide)
    · constructor
      · rintro ⟨e1, e2⟩
        refine ⟨by omega, fun j hj => ?_⟩
        have q1 := e2 (2 * j) (by omega)
        have q2 := e2 (2 * j + 1) (by omega)
        rw [yvv (k2 j hj).1, yvv (m2 j (by omega)).1] at q1
        rw [yvv (k2 j hj).2, yvv (m2 j (by omega)).2] at q2
        rw [← pair_says (hf j hj).1 (hf j hj).2, ← pair_says (hg j (by omega)).1 (hg j (by omega)).2, q1, q2]
      · rintro ⟨rfl, e2⟩
        refine ⟨by omega, fun i hi => ?_⟩
        rcases Nat.mod_two_eq_zero_or_one i with e | e
        · obtain ⟨j, rfl⟩ : ∃ j, i = 2 * j := ⟨i / 2, by omega⟩
          rw [yvv (k2 j (by omega)).1, yvv (m2 j (by omega)).1, e2 j (by omega)]
        · obtain ⟨j, rfl⟩ : ∃ j, i = 2 * j + 1 := ⟨i / 2, by omega⟩
          rw [yvv (k2 j (by omega)).2, yvv (m2 j (by omega)).2, e2 j (by omega)]
/-- two codings differ: so do the texts -/
theorem Cod.dif {cd cd' : Int32} {n k : Nat} {f g : Nat → Int32} {V V' : Cell} (h : Cod cd n f V) (h' : Cod cd' k g V') (hne : ¬ cd = cd') : ¬ SameT n f k g := by
  rintro ⟨rfl, e⟩
  rcases h with ⟨rfl, -, k2⟩ | ⟨rfl, -, -, j, hj, hw⟩
  · rcases h' with ⟨rfl, -⟩ | ⟨-, -, -, j, hj, hw⟩
    · exact hne rfl
    · exact (k2 j hj).2 (by rw [e j hj]; exact hw)
  · rcases h' with ⟨-, -, m2⟩ | ⟨rfl, -⟩
    · exact (m2 j hj).2 (by rw [← e j hj]; exact hw)
    · exact hne rfl
/-- an object of exactly C is an instance of C -/
theorem cinst {p : Program} {l : Launch} {e : Env} {R : Room} {s : State} {m : MethodId} {args : Array Value} {below : List Frame} {meth : Method} {c : Code} {T : State} {locs : List Loc} {cells slots : Nat} (X : Stand p l e R s m args below meth c T locs cells slots) (hexec : p.tables.exec = Jvm.exec) {own C : String} {index : Nat} (hown : s.vm.findClass own = some m.cls) (hlink : (Cond.classLink own index C).before args s = true) {a : Addr} (hE : Exact C a T)
    {g : JFrame} (hg : g.method = m) {rest : List Value} (hstack : g.stack = .ref a :: rest) (hdg : decode c.code g.pc = .ok (.instanceof index, 3)) :
    ∃ T', Stand p l e R s m args below meth c T' locs cells slots ∧ T'.heap = T.heap ∧ ∀ target, Steps p.tables e below (T'.setTop { g with pc := g.pc + 3, stack := .int 1 :: rest }) target → Steps p.tables e below (T.setTop g) target := by
  obtain ⟨cB, h1, D, h2, h3, h4⟩ := hE
  have h1' : s.vm.findClass C = some cB := by rw [← X.warmed.alike.findClass]; exact h1
  obtain ⟨vm', X', st⟩ := X.instanceofYes hexec hown hlink h2 h4 h1' (by rw [h3]; exact Jvm.Free.SB.assignable_self _ _) hg hstack hdg
  exact ⟨_, X', rfl, st⟩
theorem cself {p : Program} {l : Launch} {e : Env} {R : Room} {s : State} {m : MethodId} {args : Array Value} {below : List Frame} {meth : Method} {c : Code} {T : State} {locs : List Loc} {cells slots : Nat} (X : Stand p l e R s m args below meth c T locs cells slots) (hexec : p.tables.exec = Jvm.exec) {own C : String} {index : Nat} (hown : s.vm.findClass own = some m.cls) (hlink : (Cond.classLink own index C).before args s = true) {a : Addr} (hE : Exact C a T)
    {g : JFrame} (hg : g.method = m) {rest : List Value} (hstack : g.stack = .ref a :: rest) (hdg : decode c.code g.pc = .ok (.checkcast index, 3)) :
    ∃ T', Stand p l e R s m args below meth c T' locs cells slots ∧ T'.heap = T.heap ∧ ∀ target, Steps p.tables e below (T'.setTop { g with pc := g.pc + 3, stack := .ref a :: rest }) target → Steps p.tables e below (T.setTop g) target := by
  obtain ⟨cB, h1, D, h2, h3, h4⟩ := hE
  have h1' : s.vm.findClass C = some cB := by rw [← X.warmed.alike.findClass]; exact h1
  obtain ⟨vm', X', st⟩ := X.checkcastYes hexec hown hlink h2 h4 h1' (by rw [h3]; exact Jvm.Free.SB.assignable_self _ _) hg hstack hdg
  exact ⟨_, X', rfl, fun t h => st t (by rw [← hstack] at h; exact h)⟩
namespace SEq
def yN : MethodName := ⟨"java/lang/String", "equals", "(Ljava/lang/Object;)Z"⟩
abbrev yB : ByteArray := jdk_42_method_66_code
theorem d0 : decode yB 0 = .ok (.aload_n 0, 1) := by decide +kernel
theorem d1 : decode yB 1 = .ok (.aload_n 1, 1) := by decide +kernel
theorem d2 : decode yB 2 = .ok (.if_acmp (.ne) 5, 3) := by decide +kernel
theorem d5 : decode yB 5 = .ok (.iconst 1, 1) := by decide +kernel
theorem d6 : decode yB 6 = .ok (.ireturn, 1) := by decide +kernel
theorem d7 : decode yB 7 = .ok (.aload_n 1, 1) := by decide +kernel
theorem d8 : decode yB 8 = .ok (.instanceof 10, 3) := by decide +kernel
theorem d11 : decode yB 11 = .ok (.ifCond (.eq) 43, 3) := by decide +kernel
theorem d14 : decode yB 14 = .ok (.aload_n 1, 1) := by decide +kernel
theorem d15 : decode yB 15 = .ok (.checkcast 10, 3) := by decide +kernel
theorem d18 : decode yB 18 = .ok (.astore_n 2, 1) := by decide +kernel
theorem d19 : decode yB 19 = .ok (.getstatic 38, 3) := by decide +kernel
theorem d22 : decode yB 22 = .ok (.ifCond (.eq) 14, 3) := by decide +kernel
theorem d25 : decode yB 25 = .ok (.aload_n 0, 1) := by decide +kernel
theorem d26 : decode yB 26 = .ok (.getfield 15, 3) := by decide +kernel
theorem d29 : decode yB 29 = .ok (.aload_n 2, 1) := by decide +kernel
theorem d30 : decode yB 30 = .ok (.getfield 15, 3) := by decide +kernel
theorem d33 : decode yB 33 = .ok (.if_icmp (.ne) 21, 3) := by decide +kernel
theorem d36 : decode yB 36 = .ok (.aload_n 0, 1) := by decide +kernel
theorem d37 : decode yB 37 = .ok (.getfield 9, 3) := by decide +kernel
theorem d40 : decode yB 40 = .ok (.aload_n 2, 1) := by decide +kernel
theorem d41 : decode yB 41 = .ok (.getfield 9, 3) := by decide +kernel
theorem d44 : decode yB 44 = .ok (.invokestatic 541, 3) := by decide +kernel
theorem d47 : decode yB 47 = .ok (.ifCond (.eq) 7, 3) := by decide +kernel
theorem d50 : decode yB 50 = .ok (.iconst 1, 1) := by decide +kernel
theorem d51 : decode yB 51 = .ok (.goto 4, 3) := by decide +kernel
theorem d54 : decode yB 54 = .ok (.iconst 0, 1) := by decide +kernel
theorem d55 : decode yB 55 = .ok (.ireturn, 1) := by decide +kernel
def site : List Cond := [.classLink "java/lang/String" 10 "java/lang/String", .fieldLink "java/lang/String" 38 "java/lang/String" "COMPACT_STRINGS" "Z", .fieldLink "java/lang/String" 15 "java/lang/String" "coder" "B", .fieldLink "java/lang/String" 9 "java/lang/String" "value" "[B", LEq.tab] ++ staticW "java/lang/String" 541 LEq.yN
def tab : Cond := tabOf yN yB 3 (some .boolean) site
def P (x t : Addr) (V : Cell) (cd : Int32) (n : Nat) (f : Nat → Int32) (y t' : Addr) (V' : Cell) (cd' : Int32) (k : Nat) (g : Nat → Int32) (z : Int32) (args : Array Value) (s : State) : Prop := args = #[.ref x, .ref y] ∧ Txt x t V cd n f s ∧ Txt y t' V' cd' k g s ∧ StaticIs s "java/lang/String" "COMPACT_STRINGS" "Z" (.int z) ∧ ¬ z = 0
/-- equals(Object) of two Strings: whether the texts are the same -/
theorem law (l : Launch) (x t : Addr) (V : Cell) (cd : Int32) (n : Nat) (f : Nat → Int32) (y t' : Addr) (V' : Cell) (cd' : Int32) (k : Nat) (g : Nat → Int32) (z : Int32) : Law l yN 2 1 1 14 yB 3 (some .boolean) site (P x t V cd n f y t' V' cd' k g z) (Says01 (SameT n f k g)) [] 0 0 := by
  refine Law.of_walk (plainFor_of_name (by decide +kernel)) (by decide +kernel) (by decide +kernel) (by decide) (fun _ _ h => by rw [h.1]; rfl) (fun _ U U' hal hh h => ⟨h.1, h.2.1.mv hal hh, h.2.2.1.mv hal hh, h.2.2.2.1.there hal hh, h.2.2.2.2⟩) (fun r U U' V V' h1 hal h2 h => Says01.mv r U U' V V' h1 hal h2 h) ?_
  intro p e s m args below meth c s₁ X0 hexec hbytes hml hret hlk hnm hown hh0 W hP
  obtain ⟨rfl, hx, hy, s1, hz⟩ := hP
  have c1 : Steps p.tables e below (s₁.setTop (entryFrame m #[.ref x, .ref y] 3)) (s₁.setTop (mkF m 2 #[.val (.ref x), .val (.ref y), .unset] [.ref y, .ref x])) := Steps.trans (entry rfl) (by
    show Steps p.tables e below (s₁.setTop (mkF m 0 #[.val (.ref x), .val (.ref y), .unset] [])) _
    refine XS.aloadN X0.here hexec rfl (hb hbytes d0) rfl rfl ?_
    refine XS.aloadN X0.here hexec rfl (hb hbytes d1) rfl rfl ?_
    exact Steps.refl _)
  by_cases hxy : x = y
  · have c2 : Steps p.tables e below (s₁.setTop (entryFrame m #[.ref x, .ref y] 3)) (s₁.setTop (mkF m 6 #[.val (.ref x), .val (.ref y), .unset] [.int 1])) := c1.trans (by
      refine acmpNo X0.here hexec rfl (hb hbytes d2) rfl rfl rfl (by simp [acmp, hxy]) ?_
      refine iconstV X0.here hexec rfl 1 (hb hbytes d5) (by decide) ?_
      exact Steps.refl _)
    subst hxy
    have ec : cd = cd' := by
      obtain ⟨D, fd, a1, a2, a3⟩ := hx.2.2.1
      obtain ⟨D', fd', b1, b2, b3⟩ := hy.2.2.1
      cases a1.symm.trans b1
      obtain ⟨q1, q2, q3, q4⟩ := a2.1
      obtain ⟨r1, r2, r3, r4⟩ := b2.1
      cases q4.symm.trans r4
      cases a3.symm.trans b3; rfl
    have et : t = t' := by
      obtain ⟨D, fd, a1, a2, a3⟩ := hx.2.1
      obtain ⟨D', fd', b1, b2, b3⟩ := hy.2.1
      cases a1.symm.trans b1
      obtain ⟨q1, q2, q3, q4⟩ := a2.1
      obtain ⟨r1, r2, r3, r4⟩ := b2.1
      cases q4.symm.trans r4
      cases a3.symm.trans b3; rfl
    subst ec et
    have ev : V = V' := by cases hx.2.2.2.1.1.symm.trans hy.2.2.2.1.1; rfl
    subst ev
    have hs : SameT n f k g := (Cod.eqv hx.2.2.2.2.1 hy.2.2.2.2.1 hx.2.2.2.2.2 hy.2.2.2.2.2).mp ⟨rfl, fun _ _ => rfl⟩
    exact ⟨s₁, some (.int 1), _, _, _, X0, rfl, rfl, rfl, (fun h => by cases h), ⟨1, rfl, hh0, Or.inl ⟨rfl, hs⟩⟩, fun fs hl => c2.trans (X0.ireturnOut hexec hret rfl (Or.inr (Or.inl rfl)) (hb hbytes d6) hl)⟩
  · have c2 : Steps p.tables e below (s₁.setTop (entryFrame m #[.ref x, .ref y] 3)) (s₁.setTop (mkF m 8 #[.val (.ref x), .val (.ref y), .unset] [.ref y])) := c1.trans (by
      refine acmpYes X0.here hexec rfl (pc0 := 2) rfl (hb hbytes d2) rfl rfl rfl (by simp [acmp, hxy]) (by decide) rfl ?_
      refine XS.aloadN X0.here hexec rfl (hb hbytes d7) rfl rfl ?_
      exact Steps.refl _)
    obtain ⟨T3, X3, q3, st3⟩ := cinst X0 hexec hown (wk W (.classLink "java/lang/String" 10 "java/lang/String")) (hy.mv X0.warmed.alike hh0).1 (g := (mkF m 8 #[.val (.ref x), .val (.ref y), .unset] [.ref y])) rfl (rest := []) rfl (hb hbytes d8)
    have hh3 := q3.trans hh0
    have c4 : Steps p.tables e below (s₁.setTop (entryFrame m #[.ref x, .ref y] 3)) (T3.setTop (mkF m 15 #[.val (.ref x), .val (.ref y), .unset] [.ref y])) := (c2.trans (st3 _ (Steps.refl _))).trans (by
      refine XS.ifNo X3.here hexec rfl (hb hbytes d11) rfl (i0_eq_f (by decide)) ?_
      refine XS.aloadN X3.here hexec rfl (hb hbytes d14) rfl rfl ?_
      exact Steps.refl _)
    obtain ⟨T5, X5, q5, st5⟩ := cself X3 hexec hown (wk W (.classLink "java/lang/String" 10 "java/lang/String")) (hy.mv X3.warmed.alike hh3).1 (g := (mkF m 15 #[.val (.ref x), .val (.ref y), .unset] [.ref y])) rfl (rest := []) rfl (hb hbytes d15)
    have hh5 := q5.trans hh3
    have c6 : Steps p.tables e below (s₁.setTop (entryFrame m #[.ref x, .ref y] 3)) (T5.setTop (mkF m 19 #[.val (.ref x), .val (.ref y), .val (.ref y)] [])) := (c4.trans (st5 _ (Steps.refl _))).trans (by
      refine XS.astoreN X5.here hexec rfl (hb hbytes d18) rfl rfl rfl ?_
      exact Steps.refl _)
    obtain ⟨T7, X7, q7, st7⟩ := X5.sget hexec hown (wk W (.fieldLink "java/lang/String" 38 "java/lang/String" "COMPACT_STRINGS" "Z")) s1 (fun _ _ h => by rw [hh5]; exact h) (g := (mkF m 19 #[.val (.ref x), .val (.ref y), .val (.ref y)] [])) rfl (hb hbytes d19)
    have hh7 := q7.trans hh5
    have c8 : Steps p.tables e below (s₁.setTop (entryFrame m #[.ref x, .ref y] 3)) (T7.setTop (mkF m 26 #[.val (.ref x), .val (.ref y), .val (.ref y)] [.ref x])) := (c6.trans (st7 _ (Steps.refl _))).trans (by
      refine XS.ifNo X7.here hexec rfl (hb hbytes d22) rfl (i0_eq_f hz) ?_
      refine XS.aloadN X7.here hexec rfl (hb hbytes d25) rfl rfl ?_
      exact Steps.refl _)
    obtain ⟨T9, X9, q9, st9⟩ := X7.hget hexec hown (wk W (.fieldLink "java/lang/String" 15 "java/lang/String" "coder" "B")) (hx.mv X7.warmed.alike hh7).2.2.1 (g := (mkF m 26 #[.val (.ref x), .val (.ref y), .val (.ref y)] [.ref x])) rfl (rest := []) rfl (hb hbytes d26)
    have hh9 := q9.trans hh7
    have c10 : Steps p.tables e below (s₁.setTop (entryFrame m #[.ref x, .ref y] 3)) (T9.setTop (mkF m 30 #[.val (.ref x), .val (.ref y), .val (.ref y)] [.ref y, .int cd])) := (c8.trans (st9 _ (Steps.refl _))).trans (by
      refine XS.aloadN X9.here hexec rfl (hb hbytes d29) rfl rfl ?_
      exact Steps.refl _)
    obtain ⟨T11, X11, q11, st11⟩ := X9.hget hexec hown (wk W (.fieldLink "java/lang/String" 15 "java/lang/String" "coder" "B")) (hy.mv X9.warmed.alike hh9).2.2.1 (g := (mkF m 30 #[.val (.ref x), .val (.ref y), .val (.ref y)] [.ref y, .int cd])) rfl (rest := [.int cd]) rfl (hb hbytes d30)
    have hh11 := q11.trans hh9
    have c12 : Steps p.tables e below (s₁.setTop (entryFrame m #[.ref x, .ref y] 3)) (T11.setTop (mkF m 33 #[.val (.ref x), .val (.ref y), .val (.ref y)] [.int cd', .int cd])) := c10.trans (st11 _ (Steps.refl _))
    by_cases hcd : cd = cd'
    · subst hcd
      have c13 : Steps p.tables e below (s₁.setTop (entryFrame m #[.ref x, .ref y] 3)) (T11.setTop (mkF m 37 #[.val (.ref x), .val (.ref y), .val (.ref y)] [.ref x])) := c12.trans (by
        refine XS.icmpNo X11.here hexec rfl (hb hbytes d33) rfl (ii_ne_f rfl) ?_
        refine XS.aloadN X11.here hexec rfl (hb hbytes d36) rfl rfl ?_
        exact Steps.refl _)
      obtain ⟨T14, X14, q14, st14⟩ := X11.hget hexec hown (wk W (.fieldLink "java/lang/String" 9 "java/lang/String" "value" "[B")) (hx.mv X11.warmed.alike hh11).2.1 (g := (mkF m 37 #[.val (.ref x), .val (.ref y), .val (.ref y)] [.ref x])) rfl (rest := []) rfl (hb hbytes d37)
      have hh14 := q14.trans hh11
      have c15 : Steps p.tables e below (s₁.setTop (entryFrame m #[.ref x, .ref y] 3)) (T14.setTop (mkF m 41 #[.val (.ref x), .val (.ref y), .val (.ref y)] [.ref y, .ref t])) := (c13.trans (st14 _ (Steps.refl _))).trans (by
        refine XS.aloadN X14.here hexec rfl (hb hbytes d40) rfl rfl ?_
        exact Steps.refl _)
      obtain ⟨T16, X16, q16, st16⟩ := X14.hget hexec hown (wk W (.fieldLink "java/lang/String" 9 "java/lang/String" "value" "[B")) (hy.mv X14.warmed.alike hh14).2.1 (g := (mkF m 41 #[.val (.ref x), .val (.ref y), .val (.ref y)] [.ref y, .ref t])) rfl (rest := [.ref t]) rfl (hb hbytes d41)
      have hh16 := q16.trans hh14
      have c17 : Steps p.tables e below (s₁.setTop (entryFrame m #[.ref x, .ref y] 3)) (T16.setTop (mkF m 44 #[.val (.ref x), .val (.ref y), .val (.ref y)] [.ref t', .ref t])) := c15.trans (st16 _ (Steps.refl _))
      obtain ⟨v18, T18, X18, E18, g18⟩ := X16.callS hexec (LEq.law l t V t' V') hown (wks W (staticW "java/lang/String" 541 LEq.yN)) (wk W LEq.tab) (W := 0) (Nat.le_of_ble_eq_true rfl) (Nat.le_of_ble_eq_true rfl) (Nat.le_refl _) (Nat.le_refl _) (g := (mkF m 44 #[.val (.ref x), .val (.ref y), .val (.ref y)] [.ref t', .ref t])) rfl (by rw [hml]; rfl) c17 (argsL := [.ref t, .ref t']) (rest := []) rfl rfl (by show 2 * 0 + 0 ≤ _; decide) (hb hbytes d44) (⟨rfl, hx.2.2.2.1.mv X16.warmed.alike hh16, hx.2.2.2.2.1.ty, hy.2.2.2.1.mv X16.warmed.alike hh16, hy.2.2.2.2.1.ty⟩)
      obtain ⟨v, rfl, q18, hv⟩ := E18
      have iff := Cod.eqv hx.2.2.2.2.1 hy.2.2.2.2.1 hx.2.2.2.2.2 hy.2.2.2.2.2
      rcases hv with ⟨rfl, he⟩ | ⟨rfl, he⟩
      · have c19 : Steps p.tables e below (s₁.setTop (entryFrame m #[.ref x, .ref y] 3)) (T18.setTop (mkF m 55 #[.val (.ref x), .val (.ref y), .val (.ref y)] [.int 1])) := Steps.trans g18 (by
          refine XS.ifNo X18.here hexec rfl (hb hbytes d47) rfl (i0_eq_f (by decide)) ?_
          refine iconstV X18.here hexec rfl 1 (hb hbytes d50) (by decide) ?_
          refine XS.goto X18.here hexec rfl (pc0 := 51) rfl (hb hbytes d51) (by decide) rfl ?_
          exact Steps.refl _)
        exact ⟨T18, some (.int 1), _, _, _, X18, rfl, rfl, rfl, (fun h => by cases h), ⟨1, rfl, q18.trans hh16, Or.inl ⟨rfl, iff.mp he⟩⟩, fun fs hl => c19.trans (X18.ireturnOut hexec hret rfl (Or.inr (Or.inl rfl)) (hb hbytes d55) hl)⟩
      · have c19 : Steps p.tables e below (s₁.setTop (entryFrame m #[.ref x, .ref y] 3)) (T18.setTop (mkF m 55 #[.val (.ref x), .val (.ref y), .val (.ref y)] [.int 0])) := Steps.trans g18 (by
          refine XS.ifYes X18.here hexec rfl (pc0 := 47) rfl (hb hbytes d47) rfl (i0_eq_t rfl) (by decide) rfl ?_
          refine iconstV X18.here hexec rfl 0 (hb hbytes d54) (by decide) ?_
          exact Steps.refl _)
        exact ⟨T18, some (.int 0), _, _, _, X18, rfl, rfl, rfl, (fun h => by cases h), ⟨0, rfl, q18.trans hh16, Or.inr ⟨rfl, fun q => he (iff.mpr q)⟩⟩, fun fs hl => c19.trans (X18.ireturnOut hexec hret rfl (Or.inr (Or.inl rfl)) (hb hbytes d55) hl)⟩
    · have c13 : Steps p.tables e below (s₁.setTop (entryFrame m #[.ref x, .ref y] 3)) (T11.setTop (mkF m 55 #[.val (.ref x), .val (.ref y), .val (.ref y)] [.int 0])) := c12.trans (by
        refine XS.icmpYes X11.here hexec rfl (pc0 := 33) rfl (hb hbytes d33) rfl (ii_ne_t hcd) (by decide) rfl ?_
        refine iconstV X11.here hexec rfl 0 (hb hbytes d54) (by decide) ?_
        exact Steps.refl _)
      exact ⟨T11, some (.int 0), _, _, _, X11, rfl, rfl, rfl, (fun h => by cases h), ⟨0, rfl, hh11, Or.inr ⟨rfl, Cod.dif hx.2.2.2.2.1 hy.2.2.2.2.1 hcd⟩⟩, fun fs hl => c13.trans (X11.ireturnOut hexec hret rfl (Or.inr (Or.inl rfl)) (hb hbytes d55) hl)⟩
theorem pays {l : Launch} {R : Room} {p : Program} {e : Env} {below : List Frame} {s : State} {sargs : Array Value} {len W : Nat} (x t : Addr) (V : Cell) (cd : Int32) (n : Nat) (f : Nat → Int32) (y t' : Addr) (V' : Cell) (cd' : Int32) (k : Nat) (g : Nat → Int32) (z : Int32) (htab : tab.before sargs s = true) (hfr : 2 ≤ R.frames) (hlo : W + 28 ≤ R.locals) :
    Back l R p e below s sargs yN len W (fun A₁ a₁ => A₁.cells + 0 ≤ R.cells ∧ A₁.slots + 0 ≤ R.slots ∧ P x t V cd n f y t' V' cd' k g z a₁ A₁.U) (fun A₁ _ v₁ B₁ => Says01 (SameT n f k g) v₁ A₁.U B₁.U ∧ B₁.locs = A₁.locs ++ [] ∧ B₁.cells = A₁.cells + 0 ∧ B₁.slots = A₁.slots + 0) :=
  (law l x t V cd n f y t' V' cd' k g z).pays htab hfr (by omega)
end SEq
end StrChars
namespace StrChars.Road
open Jvm Sem ClassFile Op Lib Jvm.Stand Jvm.Free Jvm.Free.XT
open Jvm.Lib.Cold (StaticIs)
/-- the words of String.equals(Object) -/
abbrev wordsEq : List Jvm.Cond := [.code SEq.yN SEq.yB 3 (some .boolean), .initialized ST, .classLink ST 10 ST, .fieldLink ST 38 ST "COMPACT_STRINGS" "Z", .fieldLink ST 15 ST "coder" "B", .fieldLink ST 9 ST "value" "[B", .methodLink ST 541 LEq.yN, .static LEq.yN, .code LEq.yN LEq.yB 3 (some .boolean), .initialized "java/lang/StringLatin1"]
theorem tabEq_of {a : Array Value} {s : State} (h : ∀ w ∈ wordsEq, w.before a s = true) : SEq.tab.before a s = true := by
  have hl : LEq.tab.before a s = true := unparts (wk h (.code LEq.yN LEq.yB 3 (some .boolean))) (wks h (.initialized LEq.yN.cls :: LEq.site))
  have q := consq hl h
  exact unparts (wk q (.code SEq.yN SEq.yB 3 (some .boolean))) (wks q (.initialized SEq.yN.cls :: SEq.site))
theorem movedEq {Z s : State} {a0 args : Array Value} (hZ : Z.Warmed39 s.vm) (hw : ∀ d ∈ wordsEq, d.before a0 Z = true) : ∀ d ∈ wordsEq, d.before args s = true := fun d hd => by
  have t : ∀ d ∈ wordsEq, (d.onTables && d.keepsFace) = true := by decide +kernel
  exact RoadKit.mv hZ (hw d hd) (t d hd)
/-- the road's facts of a String, as the laws ask it -/
theorem txt_of {Z U : State} {a0 : Array Value} {kI : Nat} (wi : (Jvm.Cond.instantiable ST kI).before a0 Z = true) (al : Z.vm.Alike U.vm) {x t : Addr} {kb : ClassId} {cs : List Int32} {cd N2 : Int32} {vs : List Value} (E : RoadKit.Exa Z U.heap x ST) (V : RoadKit.Fld Z U.heap x ST "value" "[B" (.ref t)) (C : RoadKit.Fld Z U.heap x ST "coder" "B" (.int cd)) (K : RoadKit.Arv Z U.heap t kb .byte N2 vs (.int 0)) (hc : CodA cs cd N2 vs) (hb : ∀ c ∈ cs, ¬ c < 0 ∧ ¬ (65535 : Int32) < c) (l2 : cs.length ≤ 4000) :
    ∃ A, Txt x t A cd cs.length (fun j => cs.getD j 0) U := by
  obtain ⟨A, K1, K2, K3, K4, K5, K6⟩ := K
  have hcod := hc.cod (by omega) K3 K5
  obtain ⟨D, fV, fC, hB, F1, F2, g1, g2, -, -⟩ := strObj wi al E V C
  exact ⟨A, ⟨_, hB.2.2.1, D, hB.1, rfl, by cases q : D.vm <;> first | rfl | exact absurd q (hB.2.1.2 _)⟩, Has.of hB F1 g1, Has.of hB F2 g2, ⟨K1.1, State.isArrayOf_alike al K1.2.1, K1.2.2, by rcases hcod with ⟨-, q, -⟩ | ⟨-, q, -⟩ <;> omega⟩, hcod, fun j hj => by
    have e : cs.getD j 0 = cs[j] := by simp [List.getD_eq_getElem?_getD, hj]
    show ¬ cs.getD j 0 < 0 ∧ ¬ 65535 < cs.getD j 0
    rw [e]; exact hb _ (List.getElem_mem _)⟩
theorem same_list (cs ds : List Int32) : SameT cs.length (fun j => cs.getD j 0) ds.length (fun j => ds.getD j 0) ↔ cs = ds := by
  constructor
  · rintro ⟨e, q⟩
    refine List.ext_getElem e fun j h1 h2 => ?_
    have := q j h1
    simpa [List.getD_eq_getElem?_getD, h1, h2] using this
  · rintro rfl
    exact ⟨rfl, fun _ _ => rfl⟩
/-- **equals(Object) OF TWO SUCH STRINGS**: 1 just where the chars are the same -/
theorem eqW {p : Program} {l : Launch} {e : Env} {R : Room} {s : State} {args : Array Value} {below : List Frame} {len W : Nat} {Z : State} {a0 : Array Value} {h : Heap} (hZ : Z.Warmed39 s.vm) (hw : ∀ d ∈ wordsEq, d.before a0 Z = true) {kI : Nat} (wi : (Jvm.Cond.instantiable ST kI).before a0 Z = true)
    {x t : Addr} {kb : ClassId} {cs : List Int32} {cd N2 : Int32} {vs : List Value} (E : RoadKit.Exa Z h x ST) (V : RoadKit.Fld Z h x ST "value" "[B" (.ref t)) (C : RoadKit.Fld Z h x ST "coder" "B" (.int cd)) (K : RoadKit.Arv Z h t kb .byte N2 vs (.int 0)) (hc : CodA cs cd N2 vs) (hb : ∀ c ∈ cs, ¬ c < 0 ∧ ¬ (65535 : Int32) < c) (l2 : cs.length ≤ 4000)
    {y t' : Addr} {kb' : ClassId} {ds : List Int32} {cd' N2' : Int32} {vs' : List Value} (E' : RoadKit.Exa Z h y ST) (V' : RoadKit.Fld Z h y ST "value" "[B" (.ref t')) (C' : RoadKit.Fld Z h y ST "coder" "B" (.int cd')) (K' : RoadKit.Arv Z h t' kb' .byte N2' vs' (.int 0)) (hc' : CodA ds cd' N2' vs') (hb' : ∀ c ∈ ds, ¬ c < 0 ∧ ¬ (65535 : Int32) < c) (l2' : ds.length ≤ 4000)
    {z : Int32} (S : RoadKit.Sta Z h ST "COMPACT_STRINGS" "Z" (.int z)) (hz : ¬ z = 0) (hfr : 2 ≤ R.frames) (hlo : W + 28 ≤ R.locals) :
    Back l R p e below s args (⟨"java/lang/String", "equals", "(Ljava/lang/Object;)Z"⟩ : MethodName) len W (fun P a => a = #[.ref x, .ref y] ∧ P.U.heap = h ∧ P.cells + 0 ≤ R.cells ∧ P.slots + 0 ≤ R.slots)
      (fun P _ v B => ∃ L, (((v = some (.int 1) ∧ cs = ds) ∨ (v = some (.int 0) ∧ ¬ cs = ds)) ∧ L = [] ∧ B.U.heap = h) ∧ B.locs = P.locs ++ L ∧ B.cells = P.cells + 0 ∧ B.slots = P.slots + 0) := by
  intro m meth c P g ig mk a X hg hsize hdg hW hn hp'
  obtain ⟨rfl, rfl, r1, r2⟩ := hp'
  have al : Z.vm.Alike P.U.vm := hZ.alike.trans X.warmed.alike
  obtain ⟨A, hx⟩ := txt_of wi al E V C K hc hb l2
  obtain ⟨A', hy⟩ := txt_of wi al E' V' C' K' hc' hb' l2'
  obtain ⟨v, B, X', ⟨⟨w, hv, hh, hq⟩, hl, hk, hs⟩, st⟩ := SEq.pays x t A cd cs.length (fun j => cs.getD j 0) y t' A' cd' ds.length (fun j => ds.getD j 0) z (tabEq_of (movedEq hZ hw)) hfr hlo m meth c P g ig mk _ X hg hsize hdg hW hn ⟨r1, r2, rfl, hx, hy, sta_is al S, hz⟩
  refine ⟨v, B, X', ⟨[], ⟨?_, rfl, hh⟩, hl, hk, hs⟩, st⟩
  rcases hq with ⟨rfl, q⟩ | ⟨rfl, q⟩
  · exact Or.inl ⟨hv, (same_list cs ds).mp q⟩
  · exact Or.inr ⟨hv, fun e => q ((same_list cs ds).mpr e)⟩
end StrChars.Road
namespace StrChars
open Jvm Sem ClassFile Op Lib Jvm.Stand Jvm.Free.XT Jvm.Free.ALB Jvm.Free.JM Jvm.Free
open Jvm.Lib.Cold (StaticIs)
namespace ChN
def yN : MethodName := ⟨"java/lang/String", "charAt", "(I)C"⟩
abbrev yB : ByteArray := jdk_42_method_56_code
theorem d0 : decode yB 0 = .ok (.aload_n 0, 1) := by decide +kernel
theorem d1 : decode yB 1 = .ok (.invokevirtual 492, 3) := by decide +kernel
theorem d4 : decode yB 4 = .ok (.ifCond (.eq) 12, 3) := by decide +kernel
theorem d7 : decode yB 7 = .ok (.aload_n 0, 1) := by decide +kernel
theorem d8 : decode yB 8 = .ok (.getfield 9, 3) := by decide +kernel
theorem d11 : decode yB 11 = .ok (.iload_n 1, 1) := by decide +kernel
theorem d12 : decode yB 12 = .ok (.invokestatic 495, 3) := by decide +kernel
theorem d15 : decode yB 15 = .ok (.ireturn, 1) := by decide +kernel
def site : List Cond := [.fieldLink "java/lang/String" 9 "java/lang/String" "value" "[B", IsL.tab, LChA.tab] ++ virtW "java/lang/String" 492 "java/lang/String" IsL.yN IsL.yN ++ staticW "java/lang/String" 495 LChA.yN
def tab : Cond := tabOf yN yB 2 (some .char) site
def P (x t : Addr) (V : Cell) (n : Nat) (f : Nat → Int32) (z : Int32) (fm : Value) (i : Nat) (args : Array Value) (s : State) : Prop := args = #[.ref x, .int (Int32.ofNat i)] ∧ Txt x t V 0 n f s ∧ i < n ∧ StaticIs s "java/lang/String" "COMPACT_STRINGS" "Z" (.int z) ∧ ¬ z = 0 ∧ StaticIs s "jdk/internal/util/Preconditions" "SIOOBE_FORMATTER" "Ljava/util/function/BiFunction;" fm ∧ fm.isRef = true
def E (f : Nat → Int32) (i : Nat) (r : Option Value) (s u : State) : Prop := XT.PureE (some (.int (f i))) r s u
/-- charAt(i) of a Latin-1 String of n chars, i < n: f i -/
theorem law (l : Launch) (x t : Addr) (V : Cell) (n : Nat) (f : Nat → Int32) (z : Int32) (fm : Value) (i : Nat) : Law l yN 2 1 3 40 yB 2 (some .char) site (P x t V n f z fm i) (E f i) [] 0 0 := by
  refine Law.of_walk (plainFor_of_name (by decide +kernel)) (by decide +kernel) (by decide +kernel) (by decide) (fun _ _ h => by rw [h.1]; rfl) (fun _ U U' hal hh h => ⟨h.1, h.2.1.mv hal hh, h.2.2.1, h.2.2.2.1.there hal hh, h.2.2.2.2.1, h.2.2.2.2.2.1.there hal hh, h.2.2.2.2.2.2⟩) (fun r U U' V V' h1 hal h2 h => XT.PureE.mv r U U' V V' h1 hal h2 h) ?_
  intro p e s m args below meth c s₁ X0 hexec hbytes hml hret hlk hnm hown hh0 W hP
  obtain ⟨rfl, hx, hi, s1, hz, s3, rf⟩ := hP
  have v31 := hx.2.2.2.1.2.2.2
  have hr := hx.2.2.2.2.2 i hi
  have hx0 := hx.mv X0.warmed.alike hh0
  have c1 : Steps p.tables e below (s₁.setTop (entryFrame m #[.ref x, .int (Int32.ofNat i)] 2)) (s₁.setTop (mkF m 1 #[.val (.ref x), .val (.int (Int32.ofNat i))] [.ref x])) := Steps.trans (entry rfl) (by
    show Steps p.tables e below (s₁.setTop (mkF m 0 #[.val (.ref x), .val (.int (Int32.ofNat i))] [])) _
    refine XS.aloadN X0.here hexec rfl (hb hbytes d0) rfl rfl ?_
    exact Steps.refl _)
  obtain ⟨v2, T2, X2, E2, g2⟩ := X0.callV hexec (IsL.law l x 0 z) hown (wks W (virtW "java/lang/String" 492 "java/lang/String" IsL.yN IsL.yN)) rfl (by decide) (wk W IsL.tab) (W := 0) (Nat.le_of_ble_eq_true rfl) (Nat.le_of_ble_eq_true rfl) (Nat.le_refl _) (Nat.le_refl _) (hx0.1.fc X0.warmed.alike) hx0.1.is (g := (mkF m 1 #[.val (.ref x), .val (.int (Int32.ofNat i))] [.ref x])) rfl (by rw [hml]; rfl) c1 (argsL := []) (rest := []) rfl rfl (by show 2 * 0 + 0 ≤ _; decide) (hb hbytes d1) (⟨rfl, hx0.2.2.1, hx.2.2.2.2.1.cd, s1.there X0.warmed.alike hh0, hz⟩)
  obtain ⟨rfl, q2⟩ := E2
  have hh2 := q2.trans hh0
  have hx2 := hx.mv X2.warmed.alike hh2
  obtain ⟨-, k1, k2⟩ | ⟨k0, -⟩ := hx.2.2.2.2.1
  · have c3 : Steps p.tables e below (s₁.setTop (entryFrame m #[.ref x, .int (Int32.ofNat i)] 2)) (T2.setTop (mkF m 8 #[.val (.ref x), .val (.int (Int32.ofNat i))] [.ref x])) := Steps.trans g2 (by
      refine XS.ifNo X2.here hexec rfl (hb hbytes d4) rfl (i0_eq_f (by decide)) ?_
      refine XS.aloadN X2.here hexec rfl (hb hbytes d7) rfl rfl ?_
      exact Steps.refl _)
    obtain ⟨T4, X4, q4, st4⟩ := X2.hget hexec hown (wk W (.fieldLink "java/lang/String" 9 "java/lang/String" "value" "[B")) hx2.2.1 (g := (mkF m 8 #[.val (.ref x), .val (.int (Int32.ofNat i))] [.ref x])) rfl (rest := []) rfl (hb hbytes d8)
    have hh4 := q4.trans hh2
    have c5 : Steps p.tables e below (s₁.setTop (entryFrame m #[.ref x, .int (Int32.ofNat i)] 2)) (T4.setTop (mkF m 12 #[.val (.ref x), .val (.int (Int32.ofNat i))] [.int (Int32.ofNat i), .ref t])) := (c3.trans (st4 _ (Steps.refl _))).trans (by
      refine XS.iloadN X4.here hexec rfl (hb hbytes d11) rfl ?_
      exact Steps.refl _)
    obtain ⟨v6, T6, X6, E6, g6⟩ := X4.callS hexec (LChA.law l t V i (lo8 (f i)) fm) hown (wks W (staticW "java/lang/String" 495 LChA.yN)) (wk W LChA.tab) (W := 0) (Nat.le_of_ble_eq_true rfl) (Nat.le_of_ble_eq_true rfl) (Nat.le_refl _) (Nat.le_refl _) (g := (mkF m 12 #[.val (.ref x), .val (.int (Int32.ofNat i))] [.int (Int32.ofNat i), .ref t])) rfl (by rw [hml]; rfl) c5 (argsL := [.ref t, .int (Int32.ofNat i)]) (rest := []) rfl rfl (by show 2 * 0 + 0 ≤ _; decide) (hb hbytes d12) (⟨rfl, hx.2.2.2.1.mv X4.warmed.alike hh4, (k2 i hi).1, s3.there X4.warmed.alike hh4, rf⟩)
    obtain ⟨rfl, q6⟩ := E6
    rw [chr8_lo8 hr.1 (k2 i hi).2] at g6
    exact ⟨T6, some (.int (f i)), _, _, _, X6, rfl, rfl, rfl, (fun h => by cases h), ⟨rfl, q6.trans hh4⟩, fun fs hl => Steps.trans g6 (X6.ireturnOut hexec hret (narrow_ch hr.1 hr.2) (Or.inr (Or.inr (Or.inr (Or.inl rfl)))) (hb hbytes d15) hl)⟩
  · exact absurd k0 (by decide)
theorem pays {l : Launch} {R : Room} {p : Program} {e : Env} {below : List Frame} {s : State} {sargs : Array Value} {len W : Nat} (x t : Addr) (V : Cell) (n : Nat) (f : Nat → Int32) (z : Int32) (fm : Value) (i : Nat) (htab : tab.before sargs s = true) (hfr : 4 ≤ R.frames) (hlo : W + 53 ≤ R.locals) :
    Back l R p e below s sargs yN len W (fun A₁ a₁ => A₁.cells + 0 ≤ R.cells ∧ A₁.slots + 0 ≤ R.slots ∧ P x t V n f z fm i a₁ A₁.U) (fun A₁ _ v₁ B₁ => E f i v₁ A₁.U B₁.U ∧ B₁.locs = A₁.locs ++ [] ∧ B₁.cells = A₁.cells + 0 ∧ B₁.slots = A₁.slots + 0) :=
  (law l x t V n f z fm i).pays htab hfr (by omega)
end ChN
end StrChars
namespace StrChars.Road
open Jvm Sem ClassFile Op Lib Jvm.Stand Jvm.Free Jvm.Free.XT
open Jvm.Lib.Cold (StaticIs)
/-- the words of String.charAt(int), the Latin-1 road alone -/
abbrev wordsChN : List Jvm.Cond := [.code ChN.yN ChN.yB 2 (some .char), .initialized ST, .fieldLink ST 9 ST "value" "[B", .fieldLink ST 38 ST "COMPACT_STRINGS" "Z", .fieldLink ST 15 ST "coder" "B", .code IsL.yN IsL.yB 1 (some .boolean), .methodLink ST 492 IsL.yN, .declares IsL.yN, .selects ST IsL.yN IsL.yN, .instanceMethod IsL.yN,
  .methodLink ST 495 LChA.yN, .static LChA.yN, .code LChA.yN LChA.yB 2 (some .char), .initialized "java/lang/StringLatin1", .methodLink "java/lang/StringLatin1" 9 JO.Str_checkIndex.yN, .static JO.Str_checkIndex.yN, .code JO.Str_checkIndex.yN JO.Str_checkIndex.yB 2 none,
  .fieldLink ST 1053 "jdk/internal/util/Preconditions" "SIOOBE_FORMATTER" "Ljava/util/function/BiFunction;", .methodLink ST 1059 JC.PreCheck.yN, .static JC.PreCheck.yN, .code JC.PreCheck.yN JC.PreCheck.yB 3 (some .int), .initialized "jdk/internal/util/Preconditions"]
theorem tabChN_of {a : Array Value} {s : State} (h : ∀ w ∈ wordsChN, w.before a s = true) : ChN.tab.before a s = true := by
  have hp : JC.PreCheck.tab.before a s = true := unparts (wk h (.code JC.PreCheck.yN JC.PreCheck.yB 3 (some .int))) (wks h (.initialized JC.PreCheck.yN.cls :: JC.PreCheck.site))
  have qk := consq hp h
  have hk : JO.Str_checkIndex.tab.before a s = true := unparts (wk qk (.code JO.Str_checkIndex.yN JO.Str_checkIndex.yB 2 none)) (wks qk (.initialized JO.Str_checkIndex.yN.cls :: JO.Str_checkIndex.site))
  have ql := consq hk h
  have hl : LChA.tab.before a s = true := unparts (wk ql (.code LChA.yN LChA.yB 2 (some .char))) (wks ql (.initialized LChA.yN.cls :: LChA.site))
  have hi : IsL.tab.before a s = true := unparts (wk h (.code IsL.yN IsL.yB 1 (some .boolean))) (wks h (.initialized IsL.yN.cls :: IsL.site))
  have q := consq hi (consq hl h)
  exact unparts (wk q (.code ChN.yN ChN.yB 2 (some .char))) (wks q (.initialized ChN.yN.cls :: ChN.site))
theorem movedChN {Z s : State} {a0 args : Array Value} (hZ : Z.Warmed39 s.vm) (hw : ∀ d ∈ wordsChN, d.before a0 Z = true) : ∀ d ∈ wordsChN, d.before args s = true := fun d hd => by
  have t : ∀ d ∈ wordsChN, (d.onTables && d.keepsFace) = true := by decide +kernel
  exact RoadKit.mv hZ (hw d hd) (t d hd)
/-- **charAt(i) OF A LATIN-1 STRING**, i < n: the char -/
theorem chN {p : Program} {l : Launch} {e : Env} {R : Room} {s : State} {args : Array Value} {below : List Frame} {len W : Nat} {Z : State} {a0 : Array Value} {h : Heap} (hZ : Z.Warmed39 s.vm) (hw : ∀ d ∈ wordsChN, d.before a0 Z = true) {kI : Nat} (wi : (Jvm.Cond.instantiable ST kI).before a0 Z = true)
    {x t : Addr} {kb : ClassId} {cs : List Int32} {N2 z : Int32} {vs : List Value} {fm : Value} {i : Nat} {j : Int32} (E : RoadKit.Exa Z h x ST) (V : RoadKit.Fld Z h x ST "value" "[B" (.ref t)) (C : RoadKit.Fld Z h x ST "coder" "B" (.int 0)) (K : RoadKit.Arv Z h t kb .byte N2 vs (.int 0)) (hc : CodA cs 0 N2 vs) (hb : ∀ c ∈ cs, ¬ c < 0 ∧ ¬ (65535 : Int32) < c)
    (S : RoadKit.Sta Z h ST "COMPACT_STRINGS" "Z" (.int z)) (hz : ¬ z = 0) (F : RoadKit.Sta Z h "jdk/internal/util/Preconditions" "SIOOBE_FORMATTER" "Ljava/util/function/BiFunction;" fm) (rf : fm.isRef = true) (l2 : cs.length ≤ 4000) (hi : i < cs.length) (hj : j = Int32.ofNat i) (hfr : 4 ≤ R.frames) (hlo : W + 53 ≤ R.locals) :
    Back l R p e below s args (⟨"java/lang/String", "charAt", "(I)C"⟩ : MethodName) len W (fun P a => a = #[.ref x, .int j] ∧ P.U.heap = h ∧ P.cells + 0 ≤ R.cells ∧ P.slots + 0 ≤ R.slots)
      (fun P _ v B => ∃ L, (v = some (.int (cs.getD i 0)) ∧ L = [] ∧ B.U.heap = h) ∧ B.locs = P.locs ++ L ∧ B.cells = P.cells + 0 ∧ B.slots = P.slots + 0) := by
  subst hj
  intro m meth c P g ig mk a X hg hsize hdg hW hn hp'
  obtain ⟨rfl, rfl, r1, r2⟩ := hp'
  have al : Z.vm.Alike P.U.vm := hZ.alike.trans X.warmed.alike
  obtain ⟨A, hx⟩ := txt_of wi al E V C K hc hb l2
  obtain ⟨v, B, X', ⟨⟨hv, hh⟩, hl, hk, hs⟩, st⟩ := ChN.pays x t A cs.length (fun j => cs.getD j 0) z fm i (tabChN_of (movedChN hZ hw)) hfr hlo m meth c P g ig mk _ X hg hsize hdg hW hn ⟨r1, r2, rfl, hx, hi, sta_is al S, hz, sta_is al F, rf⟩
  exact ⟨v, B, X', ⟨[], ⟨hv, rfl, hh⟩, hl, hk, hs⟩, st⟩
/-- what backV says of its String, as the contracts of this text ask it: cs's low bytes, coder 0 -/
theorem codOf {cs : List Int32} {n : Nat} (hn : cs.length = n) (hb : ∀ c ∈ cs, ¬ 255 < c) : CodA cs 0 (Int32.ofNat n) ((cs.map lo8).map Value.int) := Or.inl ⟨rfl, by rw [hn], by simp [List.map_map, Function.comp_def], hb⟩
end StrChars.Road
end Jvm.Pilot.@@N@@
namespace Jvm.Pilot.@@N@@
open Jvm Jvm.ClassFile Sem Op Lib Jvm.Free Jvm.Stand Jvm.LawKit Jvm.RoadKit Bundle Jvm.Pilot.@@N@@.Jvm.D
namespace Ow
/-! A small logic of walks: Wq says: from every state that stands at pc with these locals, this stack and this heap, the body runs to its end and Post holds there. -/
def Cx (l : Launch) (nw : Bool) (Z : State) (EL : List (String × Nat)) (a0 : Array Value) (n0 : Nat) (y : MethodName) (B : ByteArray) (ml : Nat) (ret : Option FieldType) (R : Room) (h0 : Heap) (fs : List Addr) (h : Heap) (ce sl : Nat)
    (p : Program) (e : Env) (s : State) (m : MethodId) (args : Array Value) (below : List Frame) (meth : Method) (c : Code) (T : State) (locs : List Loc) (vm : Vm) (k : Nat) : Prop :=
  (p.tables.exec = Jvm.exec ∧ c.code = B ∧ c.maxLocals = ml ∧ meth.sig.returnType = ret ∧ meth.locks = false ∧ meth.name = y.name ∧ vm.findClass y.cls = some m.cls ∧ s.heap = h0) ∧
  (Z.Warmed39 vm ∧ (∀ d ∈ tables_1, d.before a0 Z = true) ∧ EW Z a0 EL ∧ (nw = true → vm = s.vm ∧ EL = [])) ∧
  Stand p l e R (s.setVm vm) m args below meth c T locs ce sl ∧ T.heap = h ∧ (Fr n0 locs ∧ Old Z n0 h) ∧ (s.Since vm k ∧ k ≤ h.size) ∧ CHr Z EL s.vm h0 vm h ∧ ∀ x ∈ fs, n0 ≤ x ∧ x < h.size ∧ Safe Z EL vm h x
def Fn (nw : Bool) (Z : State) (EL : List (String × Nat)) (n0 : Nat) (R : Room) (h0 : Heap) (Post : Option Value → Heap → Prop) (p : Program) (e : Env) (s : State) (below : List Frame) (t : State) : Prop :=
  ∃ s₂ o, Steps p.tables e below t s₂ ∧ s₂.status = .running ∧ Ended s₂ below o ∧ ∃ v L, o = .returned v ∧ Post v s₂.heap ∧ (Fr n0 L ∧ Old Z n0 s₂.heap) ∧ CHr Z EL s.vm h0 s₂.vm s₂.heap ∧ ReturnedEndW s o s₂ L R.cells R.slots ∧ (nw = true → s.WarmedH s₂.vm)
def Wq (l : Launch) (nw : Bool) (Z : State) (EL : List (String × Nat)) (a0 : Array Value) (n0 : Nat) (y : MethodName) (B : ByteArray) (ml : Nat) (ret : Option FieldType) (R : Room) (h0 : Heap) (Post : Option Value → Heap → Prop) (fs : List Addr) (h : Heap) (ce sl pc : Nat) (L : Array Slot) (S : List Value) : Prop :=
  ∀ (p : Program) (e : Env) (s : State) (m : MethodId) (args : Array Value) (below : List Frame) (meth : Method) (c : Code) (T : State) (locs : List Loc) (vm : Vm) (k : Nat),
    Cx l nw Z EL a0 n0 y B ml ret R h0 fs h ce sl p e s m args below meth c T locs vm k → Fn nw Z EL n0 R h0 Post p e s below (T.setTop (mkF m pc L S))
section Rules
variable {l : Launch} {nw : Bool} {Z : State} {EL : List (String × Nat)} {a0 : Array Value} {n0 : Nat} {y : MethodName} {B : ByteArray} {ml : Nat} {ret : Option FieldType} {R : Room} {h0 : Heap} {Post : Option Value → Heap → Prop} {fs : List Addr} {h : Heap} {ce sl pc pc' : Nat} {L : Array Slot} {S : List Value}
theorem Fn.st {p : Program} {e : Env} {s : State} {below : List Frame} {t t' : State} (st : ∀ u, Steps p.tables e below t' u → Steps p.tables e below t u) (K : Fn nw Z EL n0 R h0 Post p e s below t') : Fn nw Z EL n0 R h0 Post p e s below t := by
  obtain ⟨s₂, o, h1, r⟩ := K
  exact ⟨s₂, o, st _ h1, r⟩
theorem pu {L' : Array Slot} {S' : List Value} (st : ∀ {p : Program} {e : Env} {m : MethodId} {below : List Frame} {c : Code} {T t : State}, At T m c below → p.tables.exec = Jvm.exec → c.code = B → Steps p.tables e below (T.setTop (mkF m pc' L' S')) t → Steps p.tables e below (T.setTop (mkF m pc L S)) t)
    (K : Wq l nw Z EL a0 n0 y B ml ret R h0 Post fs h ce sl pc' L' S') : Wq l nw Z EL a0 n0 y B ml ret R h0 Post fs h ce sl pc L S := fun p e s m args below meth c T locs vm k C =>
  (K p e s m args below meth c T locs vm k C).st fun u q => st C.2.2.1.here C.1.1 C.1.2.1 q
/-- cells and slots may be counted higher -/
theorem more {ce' sl' : Nat} (hc : ce ≤ ce') (hs : sl ≤ sl') (K : Wq l nw Z EL a0 n0 y B ml ret R h0 Post fs h ce' sl' pc L S) : Wq l nw Z EL a0 n0 y B ml ret R h0 Post fs h ce sl pc L S := fun p e s m args below meth c T locs vm k C =>
  K p e s m args below meth c T locs vm k ⟨C.1, C.2.1, C.2.2.1.more hc hs, C.2.2.2⟩
theorem fewer {fs' : List Addr} (hf : ∀ x ∈ fs', x ∈ fs) (K : Wq l nw Z EL a0 n0 y B ml ret R h0 Post fs' h ce sl pc L S) : Wq l nw Z EL a0 n0 y B ml ret R h0 Post fs h ce sl pc L S := fun p e s m args below meth c T locs vm k C =>
  K p e s m args below meth c T locs vm k ⟨C.1, C.2.1, C.2.2.1, C.2.2.2.1, C.2.2.2.2.1, C.2.2.2.2.2.1, C.2.2.2.2.2.2.1, fun x hx => C.2.2.2.2.2.2.2 x (hf x hx)⟩
theorem at' {L' : Array Slot} {S' : List Value} {ce' sl' : Nat} (e4 : ce = ce') (e5 : sl = sl') (e1 : pc = pc') (e2 : L = L') (e3 : S = S') (K : Wq l nw Z EL a0 n0 y B ml ret R h0 Post fs h ce' sl' pc' L' S') : Wq l nw Z EL a0 n0 y B ml ret R h0 Post fs h ce sl pc L S := by subst e1 e2 e3 e4 e5; exact K
/-- the words of the sheet, at hand in the walk -/
theorem words (K : (∀ d ∈ tables_1, d.before a0 Z = true) → Wq l nw Z EL a0 n0 y B ml ret R h0 Post fs h ce sl pc L S) : Wq l nw Z EL a0 n0 y B ml ret R h0 Post fs h ce sl pc L S := fun p e s m args below meth c T locs vm k C => K C.2.1.2.1 p e s m args below meth c T locs vm k C
theorem ews (K : (∀ d ∈ tables_1, d.before a0 Z = true) → EW Z a0 EL → Wq l nw Z EL a0 n0 y B ml ret R h0 Post fs h ce sl pc L S) : Wq l nw Z EL a0 n0 y B ml ret R h0 Post fs h ce sl pc L S := fun p e s m args below meth c T locs vm k C => K C.2.1.2.1 C.2.1.2.2.1 p e s m args below meth c T locs vm k C
theorem fsz (K : (∀ x ∈ fs, n0 ≤ x ∧ x < h.size) → Wq l nw Z EL a0 n0 y B ml ret R h0 Post fs h ce sl pc L S) : Wq l nw Z EL a0 n0 y B ml ret R h0 Post fs h ce sl pc L S := fun p e s m args below meth c T locs vm k C => K (fun x q => ⟨(C.2.2.2.2.2.2.2 x q).1, (C.2.2.2.2.2.2.2 x q).2.1⟩) p e s m args below meth c T locs vm k C
theorem old (K : Old Z n0 h → h0.size ≤ h.size → Wq l nw Z EL a0 n0 y B ml ret R h0 Post fs h ce sl pc L S) : Wq l nw Z EL a0 n0 y B ml ret R h0 Post fs h ce sl pc L S := fun p e s m args below meth c T locs vm k C => K C.2.2.2.2.1.2 C.2.2.2.2.2.2.1.2.1 p e s m args below meth c T locs vm k C
theorem iload {j : Nat} {v : Int32} (hd : decode B pc = .ok (.iload j, 2)) (hl : L[j]? = some (.val (.int v))) (hp : pc + 2 = pc') (K : Wq l nw Z EL a0 n0 y B ml ret R h0 Post fs h ce sl pc' L (.int v :: S)) : Wq l nw Z EL a0 n0 y B ml ret R h0 Post fs h ce sl pc L S :=
  pu (fun h hx hb q => by subst hp; exact XS.iload h hx rfl (Jvm.hb hb hd) hl q) K
theorem iloadN {j : Fin 4} {v : Int32} (hd : decode B pc = .ok (.iload_n j, 1)) (hl : L[j.val]? = some (.val (.int v))) (hp : pc + 1 = pc') (K : Wq l nw Z EL a0 n0 y B ml ret R h0 Post fs h ce sl pc' L (.int v :: S)) : Wq l nw Z EL a0 n0 y B ml ret R h0 Post fs h ce sl pc L S :=
  pu (fun h hx hb q => by subst hp; exact XS.iloadN h hx rfl (Jvm.hb hb hd) hl q) K
theorem lload {j : Nat} {v : Int64} (hd : decode B pc = .ok (.lload j, 2)) (hl : L[j]? = some (.val (.long v))) (hp : pc + 2 = pc') (K : Wq l nw Z EL a0 n0 y B ml ret R h0 Post fs h ce sl pc' L (.long v :: S)) : Wq l nw Z EL a0 n0 y B ml ret R h0 Post fs h ce sl pc L S :=
  pu (fun h hx hb q => by subst hp; exact XS.lload h hx rfl (Jvm.hb hb hd) hl q) K
theorem lloadN {j : Fin 4} {v : Int64} (hd : decode B pc = .ok (.lload_n j, 1)) (hl : L[j.val]? = some (.val (.long v))) (hp : pc + 1 = pc') (K : Wq l nw Z EL a0 n0 y B ml ret R h0 Post fs h ce sl pc' L (.long v :: S)) : Wq l nw Z EL a0 n0 y B ml ret R h0 Post fs h ce sl pc L S :=
  pu (fun h hx hb q => by subst hp; exact XS.lloadN h hx rfl (Jvm.hb hb hd) hl q) K
theorem dload {j : Nat} {v : UInt64} (hd : decode B pc = .ok (.dload j, 2)) (hl : L[j]? = some (.val (.double v))) (hp : pc + 2 = pc') (K : Wq l nw Z EL a0 n0 y B ml ret R h0 Post fs h ce sl pc' L (.double v :: S)) : Wq l nw Z EL a0 n0 y B ml ret R h0 Post fs h ce sl pc L S :=
  pu (fun h hx hb q => by subst hp; exact Jvm.Free.XS.dload h hx rfl (Jvm.hb hb hd) hl q) K
theorem dloadN {j : Fin 4} {v : UInt64} (hd : decode B pc = .ok (.dload_n j, 1)) (hl : L[j.val]? = some (.val (.double v))) (hp : pc + 1 = pc') (K : Wq l nw Z EL a0 n0 y B ml ret R h0 Post fs h ce sl pc' L (.double v :: S)) : Wq l nw Z EL a0 n0 y B ml ret R h0 Post fs h ce sl pc L S :=
  pu (fun h hx hb q => by subst hp; exact XS.dloadN h hx rfl (Jvm.hb hb hd) hl q) K
theorem aload {j : Nat} {v : Value} (hd : decode B pc = .ok (.aload j, 2)) (hl : L[j]? = some (.val v)) (hv : v.isRef = true) (hp : pc + 2 = pc') (K : Wq l nw Z EL a0 n0 y B ml ret R h0 Post fs h ce sl pc' L (v :: S)) : Wq l nw Z EL a0 n0 y B ml ret R h0 Post fs h ce sl pc L S :=
  pu (fun h hx hb q => by subst hp; exact XS.aload h hx rfl (Jvm.hb hb hd) hl hv q) K
theorem aloadN {j : Fin 4} {v : Value} (hd : decode B pc = .ok (.aload_n j, 1)) (hl : L[j.val]? = some (.val v)) (hv : v.isRef = true) (hp : pc + 1 = pc') (K : Wq l nw Z EL a0 n0 y B ml ret R h0 Post fs h ce sl pc' L (v :: S)) : Wq l nw Z EL a0 n0 y B ml ret R h0 Post fs h ce sl pc L S :=
  pu (fun h hx hb q => by subst hp; exact XS.aloadN h hx rfl (Jvm.hb hb hd) hl hv q) K
theorem istore {j : Nat} {v : Int32} {L' : Array Slot} (hd : decode B pc = .ok (.istore j, 2)) (hl : storeLocals L j (.int v) = some L') (hp : pc + 2 = pc') (K : Wq l nw Z EL a0 n0 y B ml ret R h0 Post fs h ce sl pc' L' S) : Wq l nw Z EL a0 n0 y B ml ret R h0 Post fs h ce sl pc L (.int v :: S) :=
  pu (fun h hx hb q => by subst hp; exact XS.istore h hx rfl (Jvm.hb hb hd) rfl hl q) K
theorem istoreN {j : Fin 4} {v : Int32} {L' : Array Slot} (hd : decode B pc = .ok (.istore_n j, 1)) (hl : storeLocals L j.val (.int v) = some L') (hp : pc + 1 = pc') (K : Wq l nw Z EL a0 n0 y B ml ret R h0 Post fs h ce sl pc' L' S) : Wq l nw Z EL a0 n0 y B ml ret R h0 Post fs h ce sl pc L (.int v :: S) :=
  pu (fun h hx hb q => by subst hp; exact XS.istoreN h hx rfl (Jvm.hb hb hd) rfl hl q) K
theorem lstore {j : Nat} {v : Int64} {L' : Array Slot} (hd : decode B pc = .ok (.lstore j, 2)) (hl : storeLocals L j (.long v) = some L') (hp : pc + 2 = pc') (K : Wq l nw Z EL a0 n0 y B ml ret R h0 Post fs h ce sl pc' L' S) : Wq l nw Z EL a0 n0 y B ml ret R h0 Post fs h ce sl pc L (.long v :: S) :=
  pu (fun h hx hb q => by subst hp; exact XS.lstore h hx rfl (Jvm.hb hb hd) rfl hl q) K
theorem lstoreN {j : Fin 4} {v : Int64} {L' : Array Slot} (hd : decode B pc = .ok (.lstore_n j, 1)) (hl : storeLocals L j.val (.long v) = some L') (hp : pc + 1 = pc') (K : Wq l nw Z EL a0 n0 y B ml ret R h0 Post fs h ce sl pc' L' S) : Wq l nw Z EL a0 n0 y B ml ret R h0 Post fs h ce sl pc L (.long v :: S) :=
  pu (fun h hx hb q => by subst hp; exact XS.lstoreN h hx rfl (Jvm.hb hb hd) rfl hl q) K
theorem dstore {j : Nat} {v : UInt64} {L' : Array Slot} (hd : decode B pc = .ok (.dstore j, 2)) (hl : storeLocals L j (.double v) = some L') (hp : pc + 2 = pc') (K : Wq l nw Z EL a0 n0 y B ml ret R h0 Post fs h ce sl pc' L' S) : Wq l nw Z EL a0 n0 y B ml ret R h0 Post fs h ce sl pc L (.double v :: S) :=
  pu (fun h hx hb q => by subst hp; exact XS.dstore h hx rfl (Jvm.hb hb hd) rfl hl q) K
theorem dstoreN {j : Fin 4} {v : UInt64} {L' : Array Slot} (hd : decode B pc = .ok (.dstore_n j, 1)) (hl : storeLocals L j.val (.double v) = some L') (hp : pc + 1 = pc') (K : Wq l nw Z EL a0 n0 y B ml ret R h0 Post fs h ce sl pc' L' S) : Wq l nw Z EL a0 n0 y B ml ret R h0 Post fs h ce sl pc L (.double v :: S) :=
  pu (fun h hx hb q => by subst hp; exact XS.dstoreN h hx rfl (Jvm.hb hb hd) rfl hl q) K
theorem astore {j : Nat} {v : Value} {L' : Array Slot} (hd : decode B pc = .ok (.astore j, 2)) (hv : v.isRef = true) (hl : storeLocals L j v = some L') (hp : pc + 2 = pc') (K : Wq l nw Z EL a0 n0 y B ml ret R h0 Post fs h ce sl pc' L' S) : Wq l nw Z EL a0 n0 y B ml ret R h0 Post fs h ce sl pc L (v :: S) :=
  pu (fun h hx hb q => by subst hp; exact XS.astore h hx rfl (Jvm.hb hb hd) rfl hv hl q) K
theorem astoreN {j : Fin 4} {v : Value} {L' : Array Slot} (hd : decode B pc = .ok (.astore_n j, 1)) (hv : v.isRef = true) (hl : storeLocals L j.val v = some L') (hp : pc + 1 = pc') (K : Wq l nw Z EL a0 n0 y B ml ret R h0 Post fs h ce sl pc' L' S) : Wq l nw Z EL a0 n0 y B ml ret R h0 Post fs h ce sl pc L (v :: S) :=
  pu (fun h hx hb q => by subst hp; exact XS.astoreN h hx rfl (Jvm.hb hb hd) rfl hv hl q) K
theorem iconst {i : Int} {v : Int32} (hd : decode B pc = .ok (.iconst i, 1)) (hv : Int32.ofInt i = v) (hp : pc + 1 = pc') (K : Wq l nw Z EL a0 n0 y B ml ret R h0 Post fs h ce sl pc' L (.int v :: S)) : Wq l nw Z EL a0 n0 y B ml ret R h0 Post fs h ce sl pc L S :=
  pu (fun h hx hb q => by subst hp hv; exact XS.iconst h hx rfl (Jvm.hb hb hd) q) K
theorem bipush {i : Int} {v : Int32} (hd : decode B pc = .ok (.bipush i, 2)) (hv : (Int8.ofInt i).toInt32 = v) (hp : pc + 2 = pc') (K : Wq l nw Z EL a0 n0 y B ml ret R h0 Post fs h ce sl pc' L (.int v :: S)) : Wq l nw Z EL a0 n0 y B ml ret R h0 Post fs h ce sl pc L S :=
  pu (fun h hx hb q => by subst hp hv; exact XS.bipush h hx rfl (Jvm.hb hb hd) q) K
theorem sipush {i : Int} {v : Int32} (hd : decode B pc = .ok (.sipush i, 3)) (hv : (Int16.ofInt i).toInt32 = v) (hp : pc + 3 = pc') (K : Wq l nw Z EL a0 n0 y B ml ret R h0 Post fs h ce sl pc' L (.int v :: S)) : Wq l nw Z EL a0 n0 y B ml ret R h0 Post fs h ce sl pc L S :=
  pu (fun h hx hb q => by subst hp hv; exact XS.sipush h hx rfl (Jvm.hb hb hd) q) K
theorem lconst {j : Fin 2} {v : Int64} (hd : decode B pc = .ok (.lconst j, 1)) (hv : Int64.ofNat j = v) (hp : pc + 1 = pc') (K : Wq l nw Z EL a0 n0 y B ml ret R h0 Post fs h ce sl pc' L (.long v :: S)) : Wq l nw Z EL a0 n0 y B ml ret R h0 Post fs h ce sl pc L S :=
  pu (fun h hx hb q => by subst hp hv; exact XS.lconst h hx rfl (Jvm.hb hb hd) q) K
theorem aconst_null  (hd : decode B pc = .ok (.aconst_null, 1)) (hp : pc + 1 = pc') (K : Wq l nw Z EL a0 n0 y B ml ret R h0 Post fs h ce sl pc' L (.null :: S)) : Wq l nw Z EL a0 n0 y B ml ret R h0 Post fs h ce sl pc L S :=
  pu (fun h hx hb q => by subst hp; exact XS.aconstNull h hx rfl (Jvm.hb hb hd) q) K
theorem iadd {x z : Int32} (hd : decode B pc = .ok (.iadd, 1)) (hp : pc + 1 = pc') (K : Wq l nw Z EL a0 n0 y B ml ret R h0 Post fs h ce sl pc' L (.int (x + z) :: S)) : Wq l nw Z EL a0 n0 y B ml ret R h0 Post fs h ce sl pc L (.int z :: .int x :: S) :=
  pu (fun h hx hb q => by subst hp; exact XS.iadd h hx rfl (Jvm.hb hb hd) rfl q) K
theorem isub {x z : Int32} (hd : decode B pc = .ok (.isub, 1)) (hp : pc + 1 = pc') (K : Wq l nw Z EL a0 n0 y B ml ret R h0 Post fs h ce sl pc' L (.int (x - z) :: S)) : Wq l nw Z EL a0 n0 y B ml ret R h0 Post fs h ce sl pc L (.int z :: .int x :: S) :=
  pu (fun h hx hb q => by subst hp; exact XS.isub h hx rfl (Jvm.hb hb hd) rfl q) K
theorem imul {x z : Int32} (hd : decode B pc = .ok (.imul, 1)) (hp : pc + 1 = pc') (K : Wq l nw Z EL a0 n0 y B ml ret R h0 Post fs h ce sl pc' L (.int (x * z) :: S)) : Wq l nw Z EL a0 n0 y B ml ret R h0 Post fs h ce sl pc L (.int z :: .int x :: S) :=
  pu (fun h hx hb q => by subst hp; exact XS.imul h hx rfl (Jvm.hb hb hd) rfl q) K
theorem iand {x z : Int32} (hd : decode B pc = .ok (.iand, 1)) (hp : pc + 1 = pc') (K : Wq l nw Z EL a0 n0 y B ml ret R h0 Post fs h ce sl pc' L (.int (x &&& z) :: S)) : Wq l nw Z EL a0 n0 y B ml ret R h0 Post fs h ce sl pc L (.int z :: .int x :: S) :=
  pu (fun h hx hb q => by subst hp; exact XS.iand h hx rfl (Jvm.hb hb hd) rfl q) K
theorem ior {x z : Int32} (hd : decode B pc = .ok (.ior, 1)) (hp : pc + 1 = pc') (K : Wq l nw Z EL a0 n0 y B ml ret R h0 Post fs h ce sl pc' L (.int (x ||| z) :: S)) : Wq l nw Z EL a0 n0 y B ml ret R h0 Post fs h ce sl pc L (.int z :: .int x :: S) :=
  pu (fun h hx hb q => by subst hp; exact XS.ior h hx rfl (Jvm.hb hb hd) rfl q) K
theorem ixor {x z : Int32} (hd : decode B pc = .ok (.ixor, 1)) (hp : pc + 1 = pc') (K : Wq l nw Z EL a0 n0 y B ml ret R h0 Post fs h ce sl pc' L (.int (x ^^^ z) :: S)) : Wq l nw Z EL a0 n0 y B ml ret R h0 Post fs h ce sl pc L (.int z :: .int x :: S) :=
  pu (fun h hx hb q => by subst hp; exact XS.ixor h hx rfl (Jvm.hb hb hd) rfl q) K
theorem ishl {x z : Int32} (hd : decode B pc = .ok (.ishl, 1)) (hp : pc + 1 = pc') (K : Wq l nw Z EL a0 n0 y B ml ret R h0 Post fs h ce sl pc' L (.int (x <<< (z &&& 31)) :: S)) : Wq l nw Z EL a0 n0 y B ml ret R h0 Post fs h ce sl pc L (.int z :: .int x :: S) :=
  pu (fun h hx hb q => by subst hp; exact XS.ishl h hx rfl (Jvm.hb hb hd) rfl q) K
theorem ishr {x z : Int32} (hd : decode B pc = .ok (.ishr, 1)) (hp : pc + 1 = pc') (K : Wq l nw Z EL a0 n0 y B ml ret R h0 Post fs h ce sl pc' L (.int (x >>> (z &&& 31)) :: S)) : Wq l nw Z EL a0 n0 y B ml ret R h0 Post fs h ce sl pc L (.int z :: .int x :: S) :=
  pu (fun h hx hb q => by subst hp; exact XS.ishr h hx rfl (Jvm.hb hb hd) rfl q) K
theorem iushr {x z : Int32} (hd : decode B pc = .ok (.iushr, 1)) (hp : pc + 1 = pc') (K : Wq l nw Z EL a0 n0 y B ml ret R h0 Post fs h ce sl pc' L (.int ((x.toUInt32 >>> (z &&& 31).toUInt32).toInt32) :: S)) : Wq l nw Z EL a0 n0 y B ml ret R h0 Post fs h ce sl pc L (.int z :: .int x :: S) :=
  pu (fun h hx hb q => by subst hp; exact XS.iushr h hx rfl (Jvm.hb hb hd) rfl q) K
theorem ladd {x z : Int64} (hd : decode B pc = .ok (.ladd, 1)) (hp : pc + 1 = pc') (K : Wq l nw Z EL a0 n0 y B ml ret R h0 Post fs h ce sl pc' L (.long (x + z) :: S)) : Wq l nw Z EL a0 n0 y B ml ret R h0 Post fs h ce sl pc L (.long z :: .long x :: S) :=
  pu (fun h hx hb q => by subst hp; exact XS.ladd h hx rfl (Jvm.hb hb hd) rfl q) K
theorem lsub {x z : Int64} (hd : decode B pc = .ok (.lsub, 1)) (hp : pc + 1 = pc') (K : Wq l nw Z EL a0 n0 y B ml ret R h0 Post fs h ce sl pc' L (.long (x - z) :: S)) : Wq l nw Z EL a0 n0 y B ml ret R h0 Post fs h ce sl pc L (.long z :: .long x :: S) :=
  pu (fun h hx hb q => by subst hp; exact XS.lsub h hx rfl (Jvm.hb hb hd) rfl q) K
theorem lmul {x z : Int64} (hd : decode B pc = .ok (.lmul, 1)) (hp : pc + 1 = pc') (K : Wq l nw Z EL a0 n0 y B ml ret R h0 Post fs h ce sl pc' L (.long (x * z) :: S)) : Wq l nw Z EL a0 n0 y B ml ret R h0 Post fs h ce sl pc L (.long z :: .long x :: S) :=
  pu (fun h hx hb q => by subst hp; exact XS.lmul h hx rfl (Jvm.hb hb hd) rfl q) K
theorem land {x z : Int64} (hd : decode B pc = .ok (.land, 1)) (hp : pc + 1 = pc') (K : Wq l nw Z EL a0 n0 y B ml ret R h0 Post fs h ce sl pc' L (.long (x &&& z) :: S)) : Wq l nw Z EL a0 n0 y B ml ret R h0 Post fs h ce sl pc L (.long z :: .long x :: S) :=
  pu (fun h hx hb q => by subst hp; exact XS.land h hx rfl (Jvm.hb hb hd) rfl q) K
theorem lor {x z : Int64} (hd : decode B pc = .ok (.lor, 1)) (hp : pc + 1 = pc') (K : Wq l nw Z EL a0 n0 y B ml ret R h0 Post fs h ce sl pc' L (.long (x ||| z) :: S)) : Wq l nw Z EL a0 n0 y B ml ret R h0 Post fs h ce sl pc L (.long z :: .long x :: S) :=
  pu (fun h hx hb q => by subst hp; exact XS.lor h hx rfl (Jvm.hb hb hd) rfl q) K
theorem lxor {x z : Int64} (hd : decode B pc = .ok (.lxor, 1)) (hp : pc + 1 = pc') (K : Wq l nw Z EL a0 n0 y B ml ret R h0 Post fs h ce sl pc' L (.long (x ^^^ z) :: S)) : Wq l nw Z EL a0 n0 y B ml ret R h0 Post fs h ce sl pc L (.long z :: .long x :: S) :=
  pu (fun h hx hb q => by subst hp; exact XS.lxor h hx rfl (Jvm.hb hb hd) rfl q) K
theorem lshl {x : Int64} {z : Int32} (hd : decode B pc = .ok (.lshl, 1)) (hp : pc + 1 = pc') (K : Wq l nw Z EL a0 n0 y B ml ret R h0 Post fs h ce sl pc' L (.long (x <<< (z &&& 0x3f).toInt64) :: S)) : Wq l nw Z EL a0 n0 y B ml ret R h0 Post fs h ce sl pc L (.int z :: .long x :: S) :=
  pu (fun h hx hb q => by subst hp; exact XS.lshl h hx rfl (Jvm.hb hb hd) rfl q) K
theorem lshr {x : Int64} {z : Int32} (hd : decode B pc = .ok (.lshr, 1)) (hp : pc + 1 = pc') (K : Wq l nw Z EL a0 n0 y B ml ret R h0 Post fs h ce sl pc' L (.long (x >>> (z &&& 0x3f).toInt64) :: S)) : Wq l nw Z EL a0 n0 y B ml ret R h0 Post fs h ce sl pc L (.int z :: .long x :: S) :=
  pu (fun h hx hb q => by subst hp; exact XS.lshr h hx rfl (Jvm.hb hb hd) rfl q) K
theorem lushr {x : Int64} {z : Int32} (hd : decode B pc = .ok (.lushr, 1)) (hp : pc + 1 = pc') (K : Wq l nw Z EL a0 n0 y B ml ret R h0 Post fs h ce sl pc' L (.long ((x.toUInt64 >>> (z &&& 0x3f).toInt64.toUInt64).toInt64) :: S)) : Wq l nw Z EL a0 n0 y B ml ret R h0 Post fs h ce sl pc L (.int z :: .long x :: S) :=
  pu (fun h hx hb q => by subst hp; exact XS.lushr h hx rfl (Jvm.hb hb hd) rfl q) K
theorem idiv {x z : Int32} (hd : decode B pc = .ok (.idiv, 1)) (hz : ¬ z = 0) (hp : pc + 1 = pc') (K : Wq l nw Z EL a0 n0 y B ml ret R h0 Post fs h ce sl pc' L (.int (x / z) :: S)) : Wq l nw Z EL a0 n0 y B ml ret R h0 Post fs h ce sl pc L (.int z :: .int x :: S) :=
  pu (fun h hx hb q => by subst hp; exact XS.idiv h hx rfl (Jvm.hb hb hd) rfl hz q) K
theorem ldiv {x z : Int64} (hd : decode B pc = .ok (.ldiv, 1)) (hz : ¬ z = 0) (hp : pc + 1 = pc') (K : Wq l nw Z EL a0 n0 y B ml ret R h0 Post fs h ce sl pc' L (.long (x / z) :: S)) : Wq l nw Z EL a0 n0 y B ml ret R h0 Post fs h ce sl pc L (.long z :: .long x :: S) :=
  pu (fun h hx hb q => by subst hp; exact XS.ldiv h hx rfl (Jvm.hb hb hd) rfl hz q) K
theorem irem {x z : Int32} (hd : decode B pc = .ok (.irem, 1)) (hz : ¬ z = 0) (hp : pc + 1 = pc') (K : Wq l nw Z EL a0 n0 y B ml ret R h0 Post fs h ce sl pc' L (.int (x % z) :: S)) : Wq l nw Z EL a0 n0 y B ml ret R h0 Post fs h ce sl pc L (.int z :: .int x :: S) := fun p e s m args below meth c T locs vm k C =>
  (K p e s m args below meth c T locs vm k C).st fun u q => by subst hp; exact iremM C.2.2.1 C.1.1 rfl (Jvm.hb C.1.2.1 hd) rfl hz q
theorem i2l {x : Int32} (hd : decode B pc = .ok (.i2l, 1)) (hp : pc + 1 = pc') (K : Wq l nw Z EL a0 n0 y B ml ret R h0 Post fs h ce sl pc' L (.long (x.toInt64) :: S)) : Wq l nw Z EL a0 n0 y B ml ret R h0 Post fs h ce sl pc L (.int x :: S) :=
  pu (fun h hx hb q => by subst hp; exact XS.i2l h hx rfl (Jvm.hb hb hd) rfl q) K
theorem l2i {x : Int64} (hd : decode B pc = .ok (.l2i, 1)) (hp : pc + 1 = pc') (K : Wq l nw Z EL a0 n0 y B ml ret R h0 Post fs h ce sl pc' L (.int (x.toInt32) :: S)) : Wq l nw Z EL a0 n0 y B ml ret R h0 Post fs h ce sl pc L (.long x :: S) :=
  pu (fun h hx hb q => by subst hp; exact XS.l2i h hx rfl (Jvm.hb hb hd) rfl q) K
theorem i2b {x : Int32} (hd : decode B pc = .ok (.i2b, 1)) (hp : pc + 1 = pc') (K : Wq l nw Z EL a0 n0 y B ml ret R h0 Post fs h ce sl pc' L (.int (x.toInt8.toInt32) :: S)) : Wq l nw Z EL a0 n0 y B ml ret R h0 Post fs h ce sl pc L (.int x :: S) :=
  pu (fun h hx hb q => by subst hp; exact XS.i2b h hx rfl (Jvm.hb hb hd) rfl q) K
theorem i2c {x : Int32} (hd : decode B pc = .ok (.i2c, 1)) (hp : pc + 1 = pc') (K : Wq l nw Z EL a0 n0 y B ml ret R h0 Post fs h ce sl pc' L (.int (x.toUInt32.toUInt16.toUInt32.toInt32) :: S)) : Wq l nw Z EL a0 n0 y B ml ret R h0 Post fs h ce sl pc L (.int x :: S) :=
  pu (fun h hx hb q => by subst hp; exact XS.i2c h hx rfl (Jvm.hb hb hd) rfl q) K
theorem i2s {x : Int32} (hd : decode B pc = .ok (.i2s, 1)) (hp : pc + 1 = pc') (K : Wq l nw Z EL a0 n0 y B ml ret R h0 Post fs h ce sl pc' L (.int (x.toInt16.toInt32) :: S)) : Wq l nw Z EL a0 n0 y B ml ret R h0 Post fs h ce sl pc L (.int x :: S) :=
  pu (fun h hx hb q => by subst hp; exact XS.i2s h hx rfl (Jvm.hb hb hd) rfl q) K
theorem ineg {x : Int32} (hd : decode B pc = .ok (.ineg, 1)) (hp : pc + 1 = pc') (K : Wq l nw Z EL a0 n0 y B ml ret R h0 Post fs h ce sl pc' L (.int (-x) :: S)) : Wq l nw Z EL a0 n0 y B ml ret R h0 Post fs h ce sl pc L (.int x :: S) :=
  pu (fun h hx hb q => by subst hp; exact XS.ineg h hx rfl (Jvm.hb hb hd) rfl q) K
theorem lneg {x : Int64} (hd : decode B pc = .ok (.lneg, 1)) (hp : pc + 1 = pc') (K : Wq l nw Z EL a0 n0 y B ml ret R h0 Post fs h ce sl pc' L (.long (-x) :: S)) : Wq l nw Z EL a0 n0 y B ml ret R h0 Post fs h ce sl pc L (.long x :: S) :=
  pu (fun h hx hb q => by subst hp; exact XS.lneg h hx rfl (Jvm.hb hb hd) rfl q) K
theorem lcmp {x z : Int64} (hd : decode B pc = .ok (.lcmp, 1)) (hp : pc + 1 = pc') (K : Wq l nw Z EL a0 n0 y B ml ret R h0 Post fs h ce sl pc' L (.int (lcmpW x z) :: S)) : Wq l nw Z EL a0 n0 y B ml ret R h0 Post fs h ce sl pc L (.long z :: .long x :: S) :=
  pu (fun h hx hb q => by subst hp; exact XS.lcmp h hx rfl (Jvm.hb hb hd) rfl q) K
theorem iinc {j : Nat} {i : Int} {x v : Int32} {L' : Array Slot} (hd : decode B pc = .ok (.iinc j i, 3)) (hl : L[j]? = some (.val (.int x))) (hv : x + Int32.ofInt i = v) (hl' : storeLocals L j (.int v) = some L') (hp : pc + 3 = pc') (K : Wq l nw Z EL a0 n0 y B ml ret R h0 Post fs h ce sl pc' L' S) : Wq l nw Z EL a0 n0 y B ml ret R h0 Post fs h ce sl pc L S :=
  pu (fun h hx hb q => by subst hp hv; exact XS.iinc h hx rfl (Jvm.hb hb hd) hl hl' q) K
theorem dup {v : Value} (hd : decode B pc = .ok (.dup, 1)) (hc : v.category = 1) (hp : pc + 1 = pc') (K : Wq l nw Z EL a0 n0 y B ml ret R h0 Post fs h ce sl pc' L (v :: v :: S)) : Wq l nw Z EL a0 n0 y B ml ret R h0 Post fs h ce sl pc L (v :: S) :=
  pu (fun h hx hb q => by subst hp; exact XS.dup h hx rfl (Jvm.hb hb hd) rfl hc q) K
theorem pop {v : Value} (hd : decode B pc = .ok (.pop, 1)) (hc : v.category = 1) (hp : pc + 1 = pc') (K : Wq l nw Z EL a0 n0 y B ml ret R h0 Post fs h ce sl pc' L S) : Wq l nw Z EL a0 n0 y B ml ret R h0 Post fs h ce sl pc L (v :: S) :=
  pu (fun h hx hb q => by subst hp; exact XS.pop h hx rfl (Jvm.hb hb hd) rfl hc q) K
theorem dup_x1 {v w : Value} (hd : decode B pc = .ok (.dup_x1, 1)) (hc : v.category = 1) (hc2 : w.category = 1) (hp : pc + 1 = pc') (K : Wq l nw Z EL a0 n0 y B ml ret R h0 Post fs h ce sl pc' L (v :: w :: v :: S)) : Wq l nw Z EL a0 n0 y B ml ret R h0 Post fs h ce sl pc L (v :: w :: S) :=
  pu (fun h hx hb q => by subst hp; exact XS.dupX1 h hx rfl (Jvm.hb hb hd) rfl hc hc2 q) K
theorem i2d {x : Int32} (hd : decode B pc = .ok (.i2d, 1)) (hp : pc + 1 = pc') (K : Wq l nw Z EL a0 n0 y B ml ret R h0 Post fs h ce sl pc' L (.double (FP.i2d x) :: S)) : Wq l nw Z EL a0 n0 y B ml ret R h0 Post fs h ce sl pc L (.int x :: S) :=
  pu (fun h hx hb q => by subst hp; exact XS.i2dS h hx rfl (Jvm.hb hb hd) rfl rfl q) K
theorem l2d {x : Int64} (hd : decode B pc = .ok (.l2d, 1)) (hp : pc + 1 = pc') (K : Wq l nw Z EL a0 n0 y B ml ret R h0 Post fs h ce sl pc' L (.double (FP.l2d x) :: S)) : Wq l nw Z EL a0 n0 y B ml ret R h0 Post fs h ce sl pc L (.long x :: S) :=
  pu (fun h hx hb q => by subst hp; exact XS.l2dS h hx rfl (Jvm.hb hb hd) rfl rfl q) K
theorem dcmp {o : CmpOp} {x z : UInt64} (hd : decode B pc = .ok (.dcmp o, 1)) (hp : pc + 1 = pc') (K : Wq l nw Z EL a0 n0 y B ml ret R h0 Post fs h ce sl pc' L (.int (cmpValue (FP.dcmp x z) o) :: S)) : Wq l nw Z EL a0 n0 y B ml ret R h0 Post fs h ce sl pc L (.double z :: .double x :: S) :=
  pu (fun h hx hb q => by subst hp; exact XS.dcmpS h hx rfl (Jvm.hb hb hd) rfl rfl q) K
theorem dconst0 {v : UInt64} (hd : decode B pc = .ok (.dconst 0, 1)) (hv : FP.dconst0 = v) (hp : pc + 1 = pc') (K : Wq l nw Z EL a0 n0 y B ml ret R h0 Post fs h ce sl pc' L (.double v :: S)) : Wq l nw Z EL a0 n0 y B ml ret R h0 Post fs h ce sl pc L S :=
  pu (fun h hx hb q => by subst hp; exact XS.dconst0 h hx rfl (Jvm.hb hb hd) hv q) K
theorem dconst1 {v : UInt64} (hd : decode B pc = .ok (.dconst 1, 1)) (hv : FP.dconst1 = v) (hp : pc + 1 = pc') (K : Wq l nw Z EL a0 n0 y B ml ret R h0 Post fs h ce sl pc' L (.double v :: S)) : Wq l nw Z EL a0 n0 y B ml ret R h0 Post fs h ce sl pc L S :=
  pu (fun h hx hb q => by subst hp; exact XS.dconst1 h hx rfl (Jvm.hb hb hd) hv q) K
theorem dadd {x z v : UInt64} (hd : decode B pc = .ok (.dadd, 1)) (hn : Jvm.Free.Fl.NoNaN64 (FP.dadd x z)) (hv : FP.dadd x z = v) (hp : pc + 1 = pc') (K : Wq l nw Z EL a0 n0 y B ml ret R h0 Post fs h ce sl pc' L (.double v :: S)) : Wq l nw Z EL a0 n0 y B ml ret R h0 Post fs h ce sl pc L (.double z :: .double x :: S) :=
  pu (fun h hx hb q => by subst hp; exact XS.daddS h hx rfl (Jvm.hb hb hd) rfl hn hv q) K
theorem dsub {x z v : UInt64} (hd : decode B pc = .ok (.dsub, 1)) (hn : Jvm.Free.Fl.NoNaN64 (FP.dsub x z)) (hv : FP.dsub x z = v) (hp : pc + 1 = pc') (K : Wq l nw Z EL a0 n0 y B ml ret R h0 Post fs h ce sl pc' L (.double v :: S)) : Wq l nw Z EL a0 n0 y B ml ret R h0 Post fs h ce sl pc L (.double z :: .double x :: S) :=
  pu (fun h hx hb q => by subst hp; exact XS.dsubS h hx rfl (Jvm.hb hb hd) rfl hn hv q) K
theorem dmul {x z v : UInt64} (hd : decode B pc = .ok (.dmul, 1)) (hn : Jvm.Free.Fl.NoNaN64 (FP.dmul x z)) (hv : FP.dmul x z = v) (hp : pc + 1 = pc') (K : Wq l nw Z EL a0 n0 y B ml ret R h0 Post fs h ce sl pc' L (.double v :: S)) : Wq l nw Z EL a0 n0 y B ml ret R h0 Post fs h ce sl pc L (.double z :: .double x :: S) :=
  pu (fun h hx hb q => by subst hp; exact XS.dmulS h hx rfl (Jvm.hb hb hd) rfl hn hv q) K
theorem ddiv {x z v : UInt64} (hd : decode B pc = .ok (.ddiv, 1)) (hn : Jvm.Free.Fl.NoNaN64 (FP.ddiv x z)) (hv : FP.ddiv x z = v) (hp : pc + 1 = pc') (K : Wq l nw Z EL a0 n0 y B ml ret R h0 Post fs h ce sl pc' L (.double v :: S)) : Wq l nw Z EL a0 n0 y B ml ret R h0 Post fs h ce sl pc L (.double z :: .double x :: S) :=
  pu (fun h hx hb q => by subst hp; exact XS.ddivS h hx rfl (Jvm.hb hb hd) rfl hn hv q) K
theorem goto {o : Int} (hd : decode B pc = .ok (.goto o, 3)) (ho : 0 ≤ (pc : Int) + o) (hp : ((pc : Int) + o).toNat = pc') (K : Wq l nw Z EL a0 n0 y B ml ret R h0 Post fs h ce sl pc' L S) : Wq l nw Z EL a0 n0 y B ml ret R h0 Post fs h ce sl pc L S :=
  pu (fun h hx hb q => XS.goto h hx rfl (pc0 := pc) rfl (Jvm.hb hb hd) ho hp q) K
def rel (cd : ClassFile.Cond) (x z : Int32) : Prop := match cd with
  | .eq => x = z
  | .ne => ¬ x = z
  | .lt => x < z
  | .ge => ¬ x < z
  | .gt => z < x
  | .le => ¬ z < x
def relN (cd : ClassFile.Cond) (x z : Int32) : Prop := match cd with
  | .eq => ¬ x = z
  | .ne => x = z
  | .lt => ¬ x < z
  | .ge => x < z
  | .gt => ¬ z < x
  | .le => z < x
theorem rel_t {cd : ClassFile.Cond} {x z : Int32} (h : rel cd x z) : if_icmp.holds cd x z = true := by
  cases cd
  · exact (teq h).1
  · exact (feq h).2
  · exact (tlt h).1
  · exact (flt h).2.1
  · exact (tlt h).2.2.1
  · exact (flt h).2.2.2
theorem rel_f {cd : ClassFile.Cond} {x z : Int32} (h : relN cd x z) : if_icmp.holds cd x z = false := by
  cases cd
  · exact (feq h).1
  · exact (teq h).2
  · exact (flt h).1
  · exact (tlt h).2.1
  · exact (flt h).2.2.1
  · exact (tlt h).2.2.2
theorem rel_or (cd : ClassFile.Cond) (x z : Int32) : rel cd x z ∨ relN cd x z := by
  cases cd <;> simp only [rel, relN] <;> first | exact Decidable.em _ | exact (Decidable.em _).symm
theorem icmpT {cd : ClassFile.Cond} {o : Int} {x z : Int32} (hd : decode B pc = .ok (.if_icmp cd o, 3)) (hc : rel cd x z) (ho : 0 ≤ (pc : Int) + o) (hp : ((pc : Int) + o).toNat = pc') (K : Wq l nw Z EL a0 n0 y B ml ret R h0 Post fs h ce sl pc' L S) : Wq l nw Z EL a0 n0 y B ml ret R h0 Post fs h ce sl pc L (.int z :: .int x :: S) :=
  pu (fun h hx hb q => XS.icmpYes h hx rfl (pc0 := pc) rfl (Jvm.hb hb hd) rfl (rel_t hc) ho hp q) K
theorem icmpF {cd : ClassFile.Cond} {o : Int} {x z : Int32} (hd : decode B pc = .ok (.if_icmp cd o, 3)) (hc : relN cd x z) (hp : pc + 3 = pc') (K : Wq l nw Z EL a0 n0 y B ml ret R h0 Post fs h ce sl pc' L S) : Wq l nw Z EL a0 n0 y B ml ret R h0 Post fs h ce sl pc L (.int z :: .int x :: S) :=
  pu (fun h hx hb q => by subst hp; exact XS.icmpNo h hx rfl (Jvm.hb hb hd) rfl (rel_f hc) q) K
theorem icmp {cd : ClassFile.Cond} {o : Int} {x z : Int32} {pcF : Nat} (hd : decode B pc = .ok (.if_icmp cd o, 3)) (ho : 0 ≤ (pc : Int) + o) (hp : ((pc : Int) + o).toNat = pc') (hp2 : pc + 3 = pcF) (K : rel cd x z → Wq l nw Z EL a0 n0 y B ml ret R h0 Post fs h ce sl pc' L S) (K2 : relN cd x z → Wq l nw Z EL a0 n0 y B ml ret R h0 Post fs h ce sl pcF L S) : Wq l nw Z EL a0 n0 y B ml ret R h0 Post fs h ce sl pc L (.int z :: .int x :: S) :=
  (rel_or cd x z).elim (fun q => icmpT hd q ho hp (K q)) (fun q => icmpF hd q hp2 (K2 q))
theorem ifT {cd : ClassFile.Cond} {o : Int} {x : Int32} (hd : decode B pc = .ok (.ifCond cd o, 3)) (hc : rel cd x 0) (ho : 0 ≤ (pc : Int) + o) (hp : ((pc : Int) + o).toNat = pc') (K : Wq l nw Z EL a0 n0 y B ml ret R h0 Post fs h ce sl pc' L S) : Wq l nw Z EL a0 n0 y B ml ret R h0 Post fs h ce sl pc L (.int x :: S) :=
  pu (fun h hx hb q => XS.ifYes h hx rfl (pc0 := pc) rfl (Jvm.hb hb hd) rfl ((if0 _ _).trans (rel_t hc)) ho hp q) K
theorem ifF {cd : ClassFile.Cond} {o : Int} {x : Int32} (hd : decode B pc = .ok (.ifCond cd o, 3)) (hc : relN cd x 0) (hp : pc + 3 = pc') (K : Wq l nw Z EL a0 n0 y B ml ret R h0 Post fs h ce sl pc' L S) : Wq l nw Z EL a0 n0 y B ml ret R h0 Post fs h ce sl pc L (.int x :: S) :=
  pu (fun h hx hb q => by subst hp; exact XS.ifNo h hx rfl (Jvm.hb hb hd) rfl ((if0 _ _).trans (rel_f hc)) q) K
theorem ifc {cd : ClassFile.Cond} {o : Int} {x : Int32} {pcF : Nat} (hd : decode B pc = .ok (.ifCond cd o, 3)) (ho : 0 ≤ (pc : Int) + o) (hp : ((pc : Int) + o).toNat = pc') (hp2 : pc + 3 = pcF) (K : rel cd x 0 → Wq l nw Z EL a0 n0 y B ml ret R h0 Post fs h ce sl pc' L S) (K2 : relN cd x 0 → Wq l nw Z EL a0 n0 y B ml ret R h0 Post fs h ce sl pcF L S) : Wq l nw Z EL a0 n0 y B ml ret R h0 Post fs h ce sl pc L (.int x :: S) :=
  (rel_or cd x 0).elim (fun q => ifT hd q ho hp (K q)) (fun q => ifF hd q hp2 (K2 q))
theorem ifnullT {o : Int} (hd : decode B pc = .ok (.ifnull o, 3)) (ho : 0 ≤ (pc : Int) + o) (hp : ((pc : Int) + o).toNat = pc') (K : Wq l nw Z EL a0 n0 y B ml ret R h0 Post fs h ce sl pc' L S) : Wq l nw Z EL a0 n0 y B ml ret R h0 Post fs h ce sl pc L (.null :: S) :=
  pu (fun h hx hb q => XS.ifnullYes h hx rfl (pc0 := pc) rfl (Jvm.hb hb hd) rfl ho hp q) K
theorem ifnullF {o : Int} {a : Addr} (hd : decode B pc = .ok (.ifnull o, 3)) (hp : pc + 3 = pc') (K : Wq l nw Z EL a0 n0 y B ml ret R h0 Post fs h ce sl pc' L S) : Wq l nw Z EL a0 n0 y B ml ret R h0 Post fs h ce sl pc L (.ref a :: S) :=
  pu (fun h hx hb q => by subst hp; exact XS.ifnullNo h hx rfl (Jvm.hb hb hd) rfl q) K
theorem ifnonnullT {o : Int} {a : Addr} (hd : decode B pc = .ok (.ifnonnull o, 3)) (ho : 0 ≤ (pc : Int) + o) (hp : ((pc : Int) + o).toNat = pc') (K : Wq l nw Z EL a0 n0 y B ml ret R h0 Post fs h ce sl pc' L S) : Wq l nw Z EL a0 n0 y B ml ret R h0 Post fs h ce sl pc L (.ref a :: S) :=
  pu (fun h hx hb q => XS.ifnonnullYes h hx rfl (pc0 := pc) rfl (Jvm.hb hb hd) rfl ho hp q) K
theorem ifnonnullF {o : Int} (hd : decode B pc = .ok (.ifnonnull o, 3)) (hp : pc + 3 = pc') (K : Wq l nw Z EL a0 n0 y B ml ret R h0 Post fs h ce sl pc' L S) : Wq l nw Z EL a0 n0 y B ml ret R h0 Post fs h ce sl pc L (.null :: S) :=
  pu (fun h hx hb q => by subst hp; exact XS.ifnonnullNo h hx rfl (Jvm.hb hb hd) rfl q) K
/-- two references compared: same or not -/
theorem acmp {cd : ACond} {o : Int} {v w : Value} (same : Bool) (hd : decode B pc = .ok (.if_acmp cd o, 3)) (h1 : v.isRef = true) (h2 : w.isRef = true) (hc : decide (v = w) = same) (ho : 0 ≤ (pc : Int) + o) (hp : pc' = if acV cd same = true then ((pc : Int) + o).toNat else pc + 3) (K : Wq l nw Z EL a0 n0 y B ml ret R h0 Post fs h ce sl pc' L S) : Wq l nw Z EL a0 n0 y B ml ret R h0 Post fs h ce sl pc L (w :: v :: S) := fun p e s m args below meth c T locs vm k C =>
  (K p e s m args below meth c T locs vm k C).st fun u q => Jvm.RoadKit.acmp (g := mkF m pc L (w :: v :: S)) C.2.2.1 C.1.1 rfl h1 h2 (pc0 := pc) (pc' := pc') (same := same) rfl (Jvm.hb C.1.2.1 hd) rfl hc ho hp q
/-- a step that hands back a state with the same heap -/
theorem same {L' : Array Slot} {S' : List Value} (st : ∀ {p : Program} {e : Env} {s : State} {m : MethodId} {args : Array Value} {below : List Frame} {meth : Method} {c : Code} {T : State} {locs : List Loc}, p.tables.exec = Jvm.exec → c.code = B → s.vm.findClass y.cls = some m.cls → Z.Warmed39 s.vm → (∀ d ∈ tables_1, d.before a0 Z = true) → T.heap = h → c.maxLocals = ml →
      Stand p l e R s m args below meth c T locs ce sl → ∃ T', Stand p l e R s m args below meth c T' locs ce sl ∧ T'.heap = h ∧ ∀ u, Steps p.tables e below (T'.setTop (mkF m pc' L' S')) u → Steps p.tables e below (T.setTop (mkF m pc L S)) u)
    (K : Wq l nw Z EL a0 n0 y B ml ret R h0 Post fs h ce sl pc' L' S') : Wq l nw Z EL a0 n0 y B ml ret R h0 Post fs h ce sl pc L S := fun p e s m args below meth c T locs vm k C => by
  obtain ⟨⟨hx, hby, hml, hret, hlk, hnm, hown, hh0⟩, ⟨hZ, hw, hEL, hnw⟩, X, hT, ⟨hN, hO⟩, ⟨hS, hk⟩, hC, hF⟩ := C
  obtain ⟨T', X', e', q⟩ := st (s := s.setVm vm) hx hby hown hZ hw hT hml X
  exact (K p e s m args below meth c T' locs vm k ⟨⟨hx, hby, hml, hret, hlk, hnm, hown, hh0⟩, ⟨hZ, hw, hEL, hnw⟩, X', e', ⟨hN, hO⟩, ⟨hS, hk⟩, hC, hF⟩).st q
/-- a step that makes new cells -/
theorem grow {L' : Array Slot} {S' : List Value} {ce' sl' : Nat} {P : Heap → Prop} (st : ∀ {p : Program} {e : Env} {s : State} {m : MethodId} {args : Array Value} {below : List Frame} {meth : Method} {c : Code} {T : State} {locs : List Loc}, p.tables.exec = Jvm.exec → c.code = B → s.vm.findClass y.cls = some m.cls → Z.Warmed39 s.vm → (∀ d ∈ tables_1, d.before a0 Z = true) → T.heap = h → c.maxLocals = ml →
      Stand p l e R s m args below meth c T locs ce sl → ∃ T' h', Stand p l e R s m args below meth c T' locs ce' sl' ∧ T'.heap = h' ∧ Ext h h' ∧ P h' ∧ ∀ u, Steps p.tables e below (T'.setTop (mkF m pc' L' S')) u → Steps p.tables e below (T.setTop (mkF m pc L S)) u)
    {fs' : List Addr} (hfs : ∀ x ∈ fs', x ∈ fs ∨ x = h.size) (hlt : ∀ h', Ext h h' → P h' → h.size < h'.size) (K : ∀ h', Ext h h' → P h' → Wq l nw Z EL a0 n0 y B ml ret R h0 Post fs' h' ce' sl' pc' L' S') : Wq l nw Z EL a0 n0 y B ml ret R h0 Post fs h ce sl pc L S := fun p e s m args below meth c T locs vm k C => by
  obtain ⟨⟨hx, hby, hml, hret, hlk, hnm, hown, hh0⟩, ⟨hZ, hw, hEL, hnw⟩, X, hT, ⟨hN, hO⟩, ⟨hS, hk⟩, hC, hF⟩ := C
  obtain ⟨T', h', X', e', E, hP, q⟩ := st (s := s.setVm vm) hx hby hown hZ hw hT hml X
  have hC' := hC.trans (CHr.ext E hC.1)
  refine (K h' E hP p e s m args below meth c T' locs vm k ⟨⟨hx, hby, hml, hret, hlk, hnm, hown, hh0⟩, ⟨hZ, hw, hEL, hnw⟩, X', e', ⟨hN, hO.ext E⟩, ⟨hS, Nat.le_trans hk E.1⟩, hC', fun x q => ?_⟩).st q
  rcases hfs x q with r | rfl
  · exact ⟨(hF x r).1, Nat.lt_of_lt_of_le (hF x r).2.1 E.1, Safe.ext E hC.1 (hF x r).2.2⟩
  · exact ⟨by have := hO.2.1; rw [hO.1] at this; exact this, hlt h' E hP, Safe.ext E hC.1 (Safe.new (Nat.le_refl _))⟩
/-- a step that writes one slot -/
theorem wrote {S' : List Value} {a : Addr} {j : Nat} {v : Value} (st : ∀ {p : Program} {e : Env} {s : State} {m : MethodId} {args : Array Value} {below : List Frame} {meth : Method} {c : Code} {T : State} {locs : List Loc}, p.tables.exec = Jvm.exec → c.code = B → s.vm.findClass y.cls = some m.cls → meth.name = y.name → Z.Warmed39 s.vm → (∀ d ∈ tables_1, d.before a0 Z = true) → T.heap = h →
      Stand p l e R s m args below meth c T locs ce sl → ∃ T' h', Stand p l e R s m args below meth c T' (locs ++ [⟨a, j⟩]) ce sl ∧ T'.heap = h' ∧ Wr h h' a j v ∧ ∀ u, Steps p.tables e below (T'.setTop (mkF m pc' L S')) u → Steps p.tables e below (T.setTop (mkF m pc L S)) u)
    (hf : a ∈ fs) (K : ∀ h', Wr h h' a j v → Wq l nw Z EL a0 n0 y B ml ret R h0 Post fs h' ce sl pc' L S') : Wq l nw Z EL a0 n0 y B ml ret R h0 Post fs h ce sl pc L S := fun p e s m args below meth c T locs vm k C => by
  obtain ⟨⟨hx, hby, hml, hret, hlk, hnm, hown, hh0⟩, ⟨hZ, hw, hEL, hnw⟩, X, hT, ⟨hN, hO⟩, ⟨hS, hk⟩, hC, hF⟩ := C
  obtain ⟨T', h', X', e', W', q⟩ := st (s := s.setVm vm) hx hby hown hnm hZ hw hT X
  have hsf := (hF a hf).2.2
  have hsz : h'.size = h.size := W'.size
  exact (K h' W' p e s m args below meth c T' _ vm k ⟨⟨hx, hby, hml, hret, hlk, hnm, hown, hh0⟩, ⟨hZ, hw, hEL, hnw⟩, X', e', ⟨Fr.snoc X' hN (hF a hf).1, hO.wr W' (hF a hf).1⟩, ⟨hS, (by rw [hsz]; exact hk)⟩, hC.trans (CHr.wr W' hsf hC.1), fun x r => ⟨(hF x r).1, by rw [hsz]; exact (hF x r).2.1, Safe.wr W' hsf hC.1 (hF x r).2.2⟩⟩).st q
theorem wat {d : Jvm.Cond} (hw : ∀ d ∈ tables_1, d.before a0 Z = true) {i : Nat} (h : tables_1[i]? = some d) : d.before a0 Z = true := hw _ (List.mem_of_getElem? h)
theorem getfield {i ix : Nat} {C n d : String} {a : Addr} {v : Value} (hd : decode B pc = .ok (.getfield ix, 3)) (w : tables_1[i]? = some (.fieldLink y.cls ix C n d)) (F : Fld Z h a C n d v) (hp : pc + 3 = pc') (K : Wq l nw Z EL a0 n0 y B ml ret R h0 Post fs h ce sl pc' L (v :: S)) : Wq l nw Z EL a0 n0 y B ml ret R h0 Post fs h ce sl pc L (.ref a :: S) :=
  same (fun hx hby hown hZ hw hT _ X => by subst hp; exact getF X hx hZ hown (host := "") (Or.inl (wat hw w)) Via.refl hT F (g := mkF _ pc L (.ref a :: S)) rfl rfl (Jvm.hb hby hd)) K
theorem getstatic {i ix : Nat} {C n d : String} {v : Value} (hd : decode B pc = .ok (.getstatic ix, 3)) (w : tables_1[i]? = some (.fieldLink y.cls ix C n d)) (F : Sta Z h C n d v) (hp : pc + 3 = pc') (K : Wq l nw Z EL a0 n0 y B ml ret R h0 Post fs h ce sl pc' L (v :: S)) : Wq l nw Z EL a0 n0 y B ml ret R h0 Post fs h ce sl pc L S :=
  same (fun hx hby hown hZ hw hT _ X => by subst hp; exact getS2 X hx hZ hown (host := "") (Or.inl (wat hw w)) Via.refl hT F (g := mkF _ pc L S) rfl (Jvm.hb hby hd)) K
theorem putfield {i i2 i3 ix kk : Nat} {C O n d : String} {ty : FieldType} {a : Addr} {v v' old : Value} (hd : decode B pc = .ok (.putfield ix, 3)) (w : tables_1[i]? = some (.fieldLink y.cls ix O n d))
    (w2 : tables_1[i2]? = some (.lays C O n d) ∨ (tables_1[i2]? = some (.laysFinal C O n d) ∧ y.cls = O ∧ y.name = "<init>")) (w3 : tables_1[i3]? = some (.instantiable C kk))
    (F : Fld Z h a O n d old) (E : Exa Z h a C) (hty : parseFieldDescriptor d = some ty) (hn : narrow ty v = v') (hfit : fits ty v' = true) (hf : a ∈ fs) (hp : pc + 3 = pc')
    (K : ∀ h', Wr h h' a (Jvm.RoadKit.slotOf Z O n d) v' → Wq l nw Z EL a0 n0 y B ml ret R h0 Post fs h' ce sl pc' L S) : Wq l nw Z EL a0 n0 y B ml ret R h0 Post fs h ce sl pc L (v :: .ref a :: S) :=
  wrote (fun hx hby hown hnm hZ hw hT X => by subst hp; exact putFN X hx hZ hown (wat hw w) Via.refl hT F E (w2.imp (fun q => wat hw q) fun q => ⟨wat hw q.1, q.2.1, hnm.trans q.2.2⟩) (wat hw w3) hty hn hfit (g := mkF _ pc L (v :: .ref a :: S)) rfl rfl (Jvm.hb hby hd))
    hf K
theorem new {i i2 i3 ix n : Nat} {C : String} (hd : decode B pc = .ok (.new ix, 3)) (w : tables_1[i]? = some (.classLink y.cls ix C)) (w2 : tables_1[i2]? = some (.instantiable C n)) (w3 : tables_1[i3]? = some (.initialized C)) (hc : ce + 1 ≤ R.cells) (hs : sl + n ≤ R.slots) (hp : pc + 3 = pc')
    (K : ∀ h' a, a = h.size → Ext h h' → Exa Z h' a C → (∀ {O nm d : String} {ty : FieldType}, Laid Z a0 C O nm d → parseFieldDescriptor d = some ty → Fld Z h' a O nm d (defaultValue ty)) → Wq l nw Z EL a0 n0 y B ml ret R h0 Post (a :: fs) h' (ce + 1) (sl + n) pc' L (.ref a :: S)) : Wq l nw Z EL a0 n0 y B ml ret R h0 Post fs h ce sl pc L S :=
  grow (P := fun h' => Exa Z h' h.size C ∧ (∀ {O nm d : String} {ty : FieldType}, Laid Z a0 C O nm d → parseFieldDescriptor d = some ty → Fld Z h' h.size O nm d (defaultValue ty))) (fun hx hby hown hZ hw hT _ X => by
    subst hp
    obtain ⟨T', h', X', e', E, A, D, -, st⟩ := newO X hx hZ hown (wat hw w) (wat hw w2) (wat hw w3) hT (g := mkF _ pc L S) rfl (Jvm.hb hby hd) hc hs
    exact ⟨T', h', X', e', E, ⟨A, D⟩, st⟩) (fs' := h.size :: fs) (fun x q => (List.mem_cons.mp q).symm) (fun h' _ q => q.1.lt) (fun h' E q => K h' _ rfl E q.1 q.2)
theorem newarray {i cap : Nat} {aty : ArrayType} {ty : FieldType} {z : Int32} (hd : decode B pc = .ok (.newarray aty, 2)) (hty : newarray.typeOf aty = ty) (w : tables_1[i]? = some (.arrayClass ty)) (hz : ¬ z < 0) (hcap : z.toNatClampNeg ≤ cap) (hb8 : cap * 8 ≤ 536870912) (hc : ce + 1 ≤ R.cells) (hs : sl + cap ≤ R.slots) (hp : pc + 2 = pc')
    (K : ∀ h' a kc, a = h.size → Ext h h' → Arv Z h' a kc ty z [] (defaultValue ty) → Wq l nw Z EL a0 n0 y B ml ret R h0 Post (a :: fs) h' (ce + 1) (sl + cap) pc' L (.ref a :: S)) : Wq l nw Z EL a0 n0 y B ml ret R h0 Post fs h ce sl pc L (.int z :: S) :=
  grow (P := fun h' => ∃ kc, Arv Z h' h.size kc ty z [] (defaultValue ty)) (fun hx hby hown hZ hw hT _ X => by
    subst hp hty
    obtain ⟨T', h', kc, X', e', E, A, st⟩ := newP X hx hZ (wat hw w) hT (g := mkF _ pc L (.int z :: S)) rfl (Jvm.hb hby hd) rfl hz hcap hb8 hc hs
    exact ⟨T', h', X', e', E, ⟨kc, Arv.new A hz⟩, st⟩) (fs' := h.size :: fs) (fun x q => (List.mem_cons.mp q).symm) (fun h' _ q => q.elim fun kc r => r.lt) (fun h' E q => q.elim fun kc r => K h' _ kc rfl E r)
theorem arraylength {a : Addr} {kc : ClassId} {ty : FieldType} {z : Int32} {vs : List Value} {dv : Value} (hd : decode B pc = .ok (.arraylength, 1)) (F : Arv Z h a kc ty z vs dv) (hp : pc + 1 = pc') (K : Wq l nw Z EL a0 n0 y B ml ret R h0 Post fs h ce sl pc' L (.int z :: S)) : Wq l nw Z EL a0 n0 y B ml ret R h0 Post fs h ce sl pc L (.ref a :: S) :=
  same (fun {p e s m args below meth c T locs} hx hby hown hZ hw hT _ X => by
    subst hp
    obtain ⟨cl, A, -, hsz, hz, -⟩ := F
    refine ⟨T, X, hT, fun u q => X.arraylength hx (by rw [hT]; exact A.1) (State.isArrayOf_alike hZ.alike A.2.1) (g := mkF _ pc L (.ref a :: S)) rfl rfl (Jvm.hb hby hd) u ?_⟩
    rw [len_of hsz hz]; exact q) K
theorem iaload {a : Addr} {kc : ClassId} {z j : Int32} {vs : List Value} {dv v : Value} (hd : decode B pc = .ok (.iaload, 1)) (F : Arv Z h a kc .int z vs dv) (hj : ¬ j < 0 ∧ j < z) (hv : vs.getD j.toNatClampNeg dv = v) (hp : pc + 1 = pc') (K : Wq l nw Z EL a0 n0 y B ml ret R h0 Post fs h ce sl pc' L (v :: S)) : Wq l nw Z EL a0 n0 y B ml ret R h0 Post fs h ce sl pc L (.int j :: .ref a :: S) :=
  same (fun {p e s m args below meth c T locs} hx hby hown hZ hw hT _ X => by
    subst hp
    obtain ⟨cl, A, -, hsz, hz, hH, -⟩ := F
    have hin := inb_of hsz hj
    exact ⟨T, X, hT, fun u q => X.iaload hx (by rw [hT]; exact A.1) (State.isArrayOf_alike hZ.alike A.2.1) A.2.2 hin (hH.at hin hv) (g := mkF _ pc L (.int j :: .ref a :: S)) rfl rfl (Jvm.hb hby hd) u q⟩) K
theorem caload {a : Addr} {kc : ClassId} {z j : Int32} {vs : List Value} {dv v : Value} (hd : decode B pc = .ok (.caload, 1)) (F : Arv Z h a kc .char z vs dv) (hj : ¬ j < 0 ∧ j < z) (hv : vs.getD j.toNatClampNeg dv = v) (hp : pc + 1 = pc') (K : Wq l nw Z EL a0 n0 y B ml ret R h0 Post fs h ce sl pc' L (v :: S)) : Wq l nw Z EL a0 n0 y B ml ret R h0 Post fs h ce sl pc L (.int j :: .ref a :: S) :=
  same (fun {p e s m args below meth c T locs} hx hby hown hZ hw hT _ X => by
    subst hp
    obtain ⟨cl, A, -, hsz, hz, hH, -⟩ := F
    have hin := inb_of hsz hj
    exact ⟨T, X, hT, fun u q => X.caload hx (by rw [hT]; exact A.1) (State.isArrayOf_alike hZ.alike A.2.1) A.2.2 hin (hH.at hin hv) (g := mkF _ pc L (.int j :: .ref a :: S)) rfl rfl (Jvm.hb hby hd) u q⟩) K
theorem baload {a : Addr} {kc : ClassId} {z j : Int32} {vs : List Value} {dv v : Value} (hd : decode B pc = .ok (.baload, 1)) (F : Arv Z h a kc .byte z vs dv) (hj : ¬ j < 0 ∧ j < z) (hv : vs.getD j.toNatClampNeg dv = v) (hp : pc + 1 = pc') (K : Wq l nw Z EL a0 n0 y B ml ret R h0 Post fs h ce sl pc' L (v :: S)) : Wq l nw Z EL a0 n0 y B ml ret R h0 Post fs h ce sl pc L (.int j :: .ref a :: S) :=
  same (fun {p e s m args below meth c T locs} hx hby hown hZ hw hT _ X => by
    subst hp
    obtain ⟨cl, A, -, hsz, hz, hH, -⟩ := F
    have hin := inb_of hsz hj
    exact ⟨T, X, hT, fun u q => X.baloadBytes hx (by rw [hT]; exact A.1) (State.isArrayOf_alike hZ.alike A.2.1) A.2.2 hin (hH.at hin hv) (g := mkF _ pc L (.int j :: .ref a :: S)) rfl rfl (Jvm.hb hby hd) u q⟩) K
theorem laload {a : Addr} {kc : ClassId} {z j : Int32} {vs : List Value} {dv v : Value} (hd : decode B pc = .ok (.laload, 1)) (F : Arv Z h a kc .long z vs dv) (hj : ¬ j < 0 ∧ j < z) (hv : vs.getD j.toNatClampNeg dv = v) (hp : pc + 1 = pc') (K : Wq l nw Z EL a0 n0 y B ml ret R h0 Post fs h ce sl pc' L (v :: S)) : Wq l nw Z EL a0 n0 y B ml ret R h0 Post fs h ce sl pc L (.int j :: .ref a :: S) :=
  same (fun {p e s m args below meth c T locs} hx hby hown hZ hw hT _ X => by
    subst hp
    obtain ⟨cl, A, -, hsz, hz, hH, -⟩ := F
    have hin := inb_of hsz hj
    exact ⟨T, X, hT, fun u q => X.laload hx (by rw [hT]; exact A.1) (State.isArrayOf_alike hZ.alike A.2.1) A.2.2 hin (hH.at hin hv) (g := mkF _ pc L (.int j :: .ref a :: S)) rfl rfl (Jvm.hb hby hd) u q⟩) K
theorem aaload {a : Addr} {kc : ClassId} {ty : FieldType} {z j : Int32} {vs : List Value} {dv v : Value} (hd : decode B pc = .ok (.aaload, 1)) (hty : ty.isReference = true) (F : Arv Z h a kc ty z vs dv) (hj : ¬ j < 0 ∧ j < z) (hv : vs.getD j.toNatClampNeg dv = v) (hp : pc + 1 = pc') (K : Wq l nw Z EL a0 n0 y B ml ret R h0 Post fs h ce sl pc' L (v :: S)) : Wq l nw Z EL a0 n0 y B ml ret R h0 Post fs h ce sl pc L (.int j :: .ref a :: S) :=
  same (fun {p e s m args below meth c T locs} hx hby hown hZ hw hT _ X => by
    subst hp
    obtain ⟨cl, A, -, hsz, hz, hH, -⟩ := F
    have hin := inb_of hsz hj
    exact ⟨T, X, hT, fun u q => X.aaload hx (by rw [hT]; exact A.1) (State.isArrayOf_alike hZ.alike A.2.1) hty A.2.2 hin (hH.at hin hv) (g := mkF _ pc L (.int j :: .ref a :: S)) rfl rfl (Jvm.hb hby hd) u q⟩) K
theorem castore {a : Addr} {kc : ClassId} {z j x : Int32} {vs : List Value} {dv : Value} (hd : decode B pc = .ok (.castore, 1)) (F : Arv Z h a kc .char z vs dv) (hj : ¬ j < 0 ∧ j < z) (hf : a ∈ fs) (hl : j.toNatClampNeg < vs.length) (hp : pc + 1 = pc')
    (K : ∀ h', Wr h h' a j.toNatClampNeg (.int (nar .char x)) → Arv Z h' a kc .char z (vs.set j.toNatClampNeg (.int (nar .char x))) dv → Wq l nw Z EL a0 n0 y B ml ret R h0 Post fs h' ce sl pc' L S) : Wq l nw Z EL a0 n0 y B ml ret R h0 Post fs h ce sl pc L (.int x :: .int j :: .ref a :: S) := by
  obtain ⟨cl, A, q1, hsz, hz, hH, hG⟩ := F
  have hin := inb_of hsz hj
  exact wrote (fun hx hby hown hnm hZ hw hT X => by subst hp; exact stC X hx hZ hT A hin (g := mkF _ pc L (.int x :: .int j :: .ref a :: S)) rfl rfl (Jvm.hb hby hd))
    hf (fun h' W' => K h' W' (Arv.set A q1 hsz hz hH hG (fits_nar_char _) W' _ rfl hl))
theorem bastore {a : Addr} {kc : ClassId} {z j x : Int32} {vs : List Value} {dv : Value} (hd : decode B pc = .ok (.bastore, 1)) (F : Arv Z h a kc .byte z vs dv) (hj : ¬ j < 0 ∧ j < z) (hf : a ∈ fs) (hl : j.toNatClampNeg < vs.length) (hp : pc + 1 = pc')
    (K : ∀ h', Wr h h' a j.toNatClampNeg (.int (nar .byte x)) → Arv Z h' a kc .byte z (vs.set j.toNatClampNeg (.int (nar .byte x))) dv → Wq l nw Z EL a0 n0 y B ml ret R h0 Post fs h' ce sl pc' L S) : Wq l nw Z EL a0 n0 y B ml ret R h0 Post fs h ce sl pc L (.int x :: .int j :: .ref a :: S) := by
  obtain ⟨cl, A, q1, hsz, hz, hH, hG⟩ := F
  have hin := inb_of hsz hj
  exact wrote (fun hx hby hown hnm hZ hw hT X => by subst hp; exact stB X hx hZ hT A hin (g := mkF _ pc L (.int x :: .int j :: .ref a :: S)) rfl rfl (Jvm.hb hby hd))
    hf (fun h' W' => K h' W' (Arv.set A q1 hsz hz hH hG (fits_nar_byte _) W' _ rfl hl))
theorem iastore {a : Addr} {kc : ClassId} {z j x : Int32} {vs : List Value} {dv : Value} (hd : decode B pc = .ok (.iastore, 1)) (F : Arv Z h a kc .int z vs dv) (hj : ¬ j < 0 ∧ j < z) (hf : a ∈ fs) (hl : j.toNatClampNeg < vs.length) (hp : pc + 1 = pc')
    (K : ∀ h', Wr h h' a j.toNatClampNeg (.int x) → Arv Z h' a kc .int z (vs.set j.toNatClampNeg (.int x)) dv → Wq l nw Z EL a0 n0 y B ml ret R h0 Post fs h' ce sl pc' L S) : Wq l nw Z EL a0 n0 y B ml ret R h0 Post fs h ce sl pc L (.int x :: .int j :: .ref a :: S) := by
  obtain ⟨cl, A, q1, hsz, hz, hH, hG⟩ := F
  have hin := inb_of hsz hj
  exact wrote (fun hx hby hown hnm hZ hw hT X => by subst hp; exact stI X hx hZ hT A hin (g := mkF _ pc L (.int x :: .int j :: .ref a :: S)) rfl rfl (Jvm.hb hby hd))
    hf (fun h' W' => K h' W' (Arv.set A q1 hsz hz hH hG (rfl) W' _ rfl hl))
theorem cloneArr {i1 i2 i3 i4 i5 i6 ix Wd cap : Nat} {ad : String} {a : Addr} {kc : ClassId} {ty : FieldType} {z : Int32} {vs : List Value} {dv : Value} (hd : decode B pc = .ok (.invokevirtual ix, 3)) (w1 : tables_1[i1]? = some (.methodLink y.cls ix ⟨ad, "clone", "()Ljava/lang/Object;"⟩)) (w2 : tables_1[i2]? = some (.sameMethod ad "java/lang/Object" "clone" "()Ljava/lang/Object;")) (w3 : tables_1[i3]? = some (.native ⟨"java/lang/Object", "clone", "()Ljava/lang/Object;"⟩)) (w4 : tables_1[i4]? = some (.instanceMethod ⟨"java/lang/Object", "clone", "()Ljava/lang/Object;"⟩)) (w5 : tables_1[i5]? = some (.selects ad ⟨ad, "clone", "()Ljava/lang/Object;"⟩ ⟨"java/lang/Object", "clone", "()Ljava/lang/Object;"⟩)) (w6 : tables_1[i6]? = some (.castable ad "java/lang/Cloneable"))
    (F : Arv Z h a kc ty z vs dv) (E : Exa Z h a ad) (hsz : L.size = ml) (hfr : 1 ≤ R.frames) (hW : (S.map fun v => v.category).sum ≤ Wd) (hl : Wd + 14 ≤ R.locals) (hcap : z.toNatClampNeg ≤ cap) (hc : ce + 1 ≤ R.cells) (hs : sl + cap ≤ R.slots) (hp : pc + 3 = pc')
    (K : ∀ h' r, r = h.size → Ext h h' → Arv Z h' r kc ty z vs dv → Exa Z h' r ad → Wq l nw Z EL a0 n0 y B ml ret R h0 Post (r :: fs) h' (ce + 1) (sl + cap) pc' L (.ref r :: S)) : Wq l nw Z EL a0 n0 y B ml ret R h0 Post fs h ce sl pc L (.ref a :: S) :=
  grow (P := fun h' => Arv Z h' h.size kc ty z vs dv ∧ Exa Z h' h.size ad) (fun hx hby hown hZ hw hT hml X => by
    subst hp
    obtain ⟨T', h', X', e', Ex, A, E', st⟩ := cloneH X hx hZ hown (wat hw w1) (wat hw w2) (wat hw w3) (wat hw w4) (wat hw w5) (wat hw w6) hT F.arh E (g := mkF _ pc L (.ref a :: S)) rfl (hsz.trans hml.symm) rfl (Jvm.hb hby hd) hfr (W := Wd) (by show 2 * 0 + _ ≤ _; omega) hl hcap hc hs
    exact ⟨T', h', X', e', Ex, ⟨A, E'⟩, st⟩) (fs' := h.size :: fs) (fun x q => (List.mem_cons.mp q).symm) (fun h' _ q => q.1.lt) (fun h' Ex q => K h' _ rfl Ex q.1 q.2)
theorem checkcast {i ix : Nat} {C : String} {a : Addr} (hd : decode B pc = .ok (.checkcast ix, 3)) (w : tables_1[i]? = some (.classLink y.cls ix C)) (F : Ins Z h a C true) (hp : pc + 3 = pc') (K : Wq l nw Z EL a0 n0 y B ml ret R h0 Post fs h ce sl pc' L (.ref a :: S)) : Wq l nw Z EL a0 n0 y B ml ret R h0 Post fs h ce sl pc L (.ref a :: S) :=
  same (fun hx hby hown hZ hw hT _ X => by subst hp; exact castY X hx hZ hown (wat hw w) hT F (g := mkF _ pc L (.ref a :: S)) rfl rfl (Jvm.hb hby hd)) K
theorem checkcastNull {ix : Nat} (hd : decode B pc = .ok (.checkcast ix, 3)) (hp : pc + 3 = pc') (K : Wq l nw Z EL a0 n0 y B ml ret R h0 Post fs h ce sl pc' L (.null :: S)) : Wq l nw Z EL a0 n0 y B ml ret R h0 Post fs h ce sl pc L (.null :: S) :=
  same (fun {p e s m args below meth c T locs} hx hby hown hZ hw hT _ X => by subst hp; exact ⟨T, X, hT, X.checkcastNull hx (g := mkF _ pc L (.null :: S)) rfl rfl (Jvm.hb hby hd)⟩) K
theorem instanceofNull {ix : Nat} (hd : decode B pc = .ok (.instanceof ix, 3)) (hp : pc + 3 = pc') (K : Wq l nw Z EL a0 n0 y B ml ret R h0 Post fs h ce sl pc' L (.int 0 :: S)) : Wq l nw Z EL a0 n0 y B ml ret R h0 Post fs h ce sl pc L (.null :: S) :=
  same (fun {p e s m args below meth c T locs} hx hby hown hZ hw hT _ X => by subst hp; exact ⟨T, X, hT, X.instanceofNull hx (g := mkF _ pc L (.null :: S)) rfl rfl (Jvm.hb hby hd)⟩) K
theorem instanceofY {i ix : Nat} {C : String} {a : Addr} (hd : decode B pc = .ok (.instanceof ix, 3)) (w : tables_1[i]? = some (.classLink y.cls ix C)) (F : Ins Z h a C true) (hp : pc + 3 = pc') (K : Wq l nw Z EL a0 n0 y B ml ret R h0 Post fs h ce sl pc' L (.int 1 :: S)) : Wq l nw Z EL a0 n0 y B ml ret R h0 Post fs h ce sl pc L (.ref a :: S) :=
  same (fun hx hby hown hZ hw hT _ X => by subst hp; exact instY X hx hZ hown (wat hw w) hT F (g := mkF _ pc L (.ref a :: S)) rfl rfl (Jvm.hb hby hd)) K
theorem instanceofN {i ix : Nat} {C D : String} {a : Addr} (hd : decode B pc = .ok (.instanceof ix, 3)) (w : tables_1[i]? = some (.classLink y.cls ix C)) (E : Exa Z h a D) (F : ∃ c t, Z.vm.findClass D = some c ∧ Z.vm.findClass C = some t ∧ Z.vm.assignable c t = false) (hp : pc + 3 = pc') (K : Wq l nw Z EL a0 n0 y B ml ret R h0 Post fs h ce sl pc' L (.int 0 :: S)) : Wq l nw Z EL a0 n0 y B ml ret R h0 Post fs h ce sl pc L (.ref a :: S) :=
  same (fun hx hby hown hZ hw hT _ X => by subst hp; exact instNo X hx hZ hown (wat hw w) hT E F (g := mkF _ pc L (.ref a :: S)) rfl rfl (Jvm.hb hby hd)) K
theorem ldcInt {i ix : Nat} {v : Int32} (hd : decode B pc = .ok (.ldc ix, 2)) (w : tables_1[i]? = some (.constant y.cls ix v)) (hp : pc + 2 = pc') (K : Wq l nw Z EL a0 n0 y B ml ret R h0 Post fs h ce sl pc' L (.int v :: S)) : Wq l nw Z EL a0 n0 y B ml ret R h0 Post fs h ce sl pc L S :=
  same (fun {p e s m args below meth c T locs} hx hby hown hZ hw hT _ X => by subst hp; exact ⟨T, X, hT, X.ldcInt hx hown (mvT hZ (wat hw w)) (g := mkF _ pc L S) rfl (Jvm.hb hby hd)⟩) K
theorem ldc2Long {i ix : Nat} {v : Int64} (hd : decode B pc = .ok (.ldc2_w ix, 3)) (w : tables_1[i]? = some (.constantLong y.cls ix v)) (hp : pc + 3 = pc') (K : Wq l nw Z EL a0 n0 y B ml ret R h0 Post fs h ce sl pc' L (.long v :: S)) : Wq l nw Z EL a0 n0 y B ml ret R h0 Post fs h ce sl pc L S :=
  same (fun {p e s m args below meth c T locs} hx hby hown hZ hw hT _ X => by subst hp; exact ⟨T, X, hT, X.ldc2Long hx hown (mvT hZ (wat hw w)) (g := mkF _ pc L S) rfl (Jvm.hb hby hd)⟩) K
theorem ldc2Double {i ix : Nat} {v : UInt64} (hd : decode B pc = .ok (.ldc2_w ix, 3)) (w : tables_1[i]? = some (.constantDouble y.cls ix v)) (hp : pc + 3 = pc') (K : Wq l nw Z EL a0 n0 y B ml ret R h0 Post fs h ce sl pc' L (.double v :: S)) : Wq l nw Z EL a0 n0 y B ml ret R h0 Post fs h ce sl pc L S :=
  same (fun {p e s m args below meth c T locs} hx hby hown hZ hw hT _ X => by subst hp; exact ⟨T, X, hT, X.ldc2DoubleC hx hown (mvT hZ (wat hw w)) (g := mkF _ pc L S) rfl (Jvm.hb hby hd)⟩) K
theorem initObj {i i2 i3 ix Wd : Nat} {a : Addr} (hd : decode B pc = .ok (.invokespecial ix, 3)) (w : tables_1[i]? = some (.methodLink y.cls ix Lib.objectInit)) (w2 : tables_1[i2]? = some (.instanceMethod Lib.objectInit)) (w3 : tables_1[i3]? = some (.code Lib.objectInit object_method_1_code 1 none))
    (hsz : L.size = ml) (hfr : 1 ≤ R.frames) (hW : (S.map fun v => v.category).sum ≤ Wd) (hl : Wd + 12 ≤ R.locals) (hp : pc + 3 = pc') (K : Wq l nw Z EL a0 n0 y B ml ret R h0 Post fs h ce sl pc' L S) : Wq l nw Z EL a0 n0 y B ml ret R h0 Post fs h ce sl pc L (.ref a :: S) :=
  same (fun {p e s m args below meth c T locs} hx hby hown hZ hw hT hml X => by
    subst hp
    exact initO X hx hZ hown (wat hw w) (wat hw w2) (wat hw w3) hT (g := mkF _ pc L (.ref a :: S)) rfl (hsz.trans hml.symm) rfl (Jvm.hb hby hd) hfr (W := Wd) (by show 2 * 0 + _ ≤ _; omega) hl) K
/-- ldc of a String constant that EL names, its text read -/
theorem ldcStr {i ix n : Nat} {text : String} {vs : List Value} {z : Int32} (hd : decode B pc = .ok (.ldc ix, 2)) (w : tables_1[i]? = some (.stringLink y.cls ix text)) (hwS : ∀ d ∈ Bundle.stringAtoms, d ∈ tables_1) (hmem : (y.cls, ix) ∈ EL) (hnn : nw = false)
    (ht : (∀ c ∈ text.toList, c.toNat < 256) ∧ text.toList.map (fun c => Value.int (Jvm.Lit.byteI c.toNat.toUInt16)) = vs) (hz : ¬ z < 0) (hl : z.toNatClampNeg = vs.length) (hn : 4 * text.toList.length ≤ n) (hbig : n ≤ 536870912) (hc : ce + 2 ≤ R.cells) (hs : sl + (n + 4) ≤ R.slots) (hp : pc + 2 = pc')
    (K : ∀ h' a b kc, Ext h h' → Exa Z h' a "java/lang/String" → Fld Z h' a "java/lang/String" "coder" "B" (.int 0) → Fld Z h' a "java/lang/String" "value" "[B" (.ref b) → Arv Z h' b kc .byte z vs (.int 0) → (∀ x ∈ fs, x ≠ a ∧ x ≠ b) → Wq l nw Z EL a0 n0 y B ml ret R h0 Post fs h' (ce + 2) (sl + (n + 4)) pc' L (.ref a :: S)) : Wq l nw Z EL a0 n0 y B ml ret R h0 Post fs h ce sl pc L S := fun p e s m args below meth c T locs vm k C => by
  obtain ⟨⟨hx, hby, hml, hret, hlk, hnm, hown, hh0⟩, ⟨hZ, hw, hEL, hnw⟩, X, hT, ⟨hN, hO⟩, ⟨hS, hk⟩, hC, hF⟩ := C
  subst hp
  obtain ⟨a, T', h', k1, b, kc, X', e', E, hS', hk', hZ', hown', A, Co, Va, Ar, -, -, hC', -, hne, st⟩ := ldcCH X hx hZ hown (wat hw w) (fun d q => hw d (hwS d q)) hT hS hk hEL hmem hC.1 ht hz hl (g := mkF _ pc L S) rfl (Jvm.hb hby hd) hn hbig hc hs
  refine (K h' a b kc E A Co Va Ar (fun x r => hne x (hC'.safe (hF x r).2.1 (hF x r).2.2)) p e s m args below meth c T' locs T'.vm k1 ⟨⟨hx, hby, hml, hret, hlk, hnm, hown', hh0⟩, ⟨hZ', hw, hEL, fun q => by rw [hnn] at q; cases q⟩, X', e', ⟨hN, hO.ext E⟩, ⟨hS', hk'⟩, hC.trans hC', fun x r => ⟨(hF x r).1, Nat.lt_of_lt_of_le (hF x r).2.1 E.1, hC'.safe (hF x r).2.1 (hF x r).2.2⟩⟩).st st
/-- ldc of any String constant, nothing said of its text -/
theorem ldcAny {i ix n : Nat} {text : String} (hd : decode B pc = .ok (.ldc ix, 2)) (w : tables_1[i]? = some (.stringLink y.cls ix text)) (hwS : ∀ d ∈ Bundle.stringAtoms, d ∈ tables_1) (hnn : nw = false)
    (hn : 4 * text.toList.length ≤ n) (hbig : n ≤ 536870912) (hc : ce + 2 ≤ R.cells) (hs : sl + (n + 4) ≤ R.slots) (hp : pc + 2 = pc')
    (K : ∀ h' a, Ext h h' → Wq l nw Z EL a0 n0 y B ml ret R h0 Post fs h' (ce + 2) (sl + (n + 4)) pc' L (.ref a :: S)) : Wq l nw Z EL a0 n0 y B ml ret R h0 Post fs h ce sl pc L S := fun p e s m args below meth c T locs vm k C => by
  obtain ⟨⟨hx, hby, hml, hret, hlk, hnm, hown, hh0⟩, ⟨hZ, hw, hEL, hnw⟩, X, hT, ⟨hN, hO⟩, ⟨hS, hk⟩, hC, hF⟩ := C
  subst hp
  obtain ⟨a, T', h', k1, X', e', E, hS', hk', hZ', hown', hC', -, st⟩ := ldcOH X hx hZ hown (wat hw w) (fun d q => hw d (hwS d q)) hT hS hk hEL hC.1 (g := mkF _ pc L S) rfl (Jvm.hb hby hd) hn hbig hc hs
  refine (K h' a E p e s m args below meth c T' locs T'.vm k1 ⟨⟨hx, hby, hml, hret, hlk, hnm, hown', hh0⟩, ⟨hZ', hw, hEL, fun q => by rw [hnn] at q; cases q⟩, X', e', ⟨hN, hO.ext E⟩, ⟨hS', hk'⟩, hC.trans hC', fun x r => ⟨(hF x r).1, Nat.lt_of_lt_of_le (hF x r).2.1 E.1, hC'.safe (hF x r).2.1 (hF x r).2.2⟩⟩).st st
/-- the end of a walk -/
theorem leaves {v : Option Value} (hv : ret = none → v = none) (hc : ce ≤ R.cells) (hs : sl ≤ R.slots) (hP : Post v h) (st : ∀ {p : Program} {e : Env} {s : State} {m : MethodId} {args : Array Value} {below : List Frame} {meth : Method} {c : Code} {T : State} {locs : List Loc} {fs : List Frame}, p.tables.exec = Jvm.exec → c.code = B → meth.sig.returnType = ret →
      Stand p l e R s m args below meth c T locs ce sl → (∀ (f : JFrame) (acts : List Action), f.method = m → f.locked = none → f.entered = [] → (doReturn e (T.setTop f) acts v).1 = T.setFrames fs) → Steps p.tables e below (T.setTop (mkF m pc L S)) (T.setFrames fs)) : Wq l nw Z EL a0 n0 y B ml ret R h0 Post fs h ce sl pc L S := fun p e s m args below meth c T locs vm k C => by
  obtain ⟨⟨hx, hby, hml, hret, hlk, hnm, hown, hh0⟩, ⟨hZ, hw, hEL, hnw⟩, X, hT, ⟨hN, hO⟩, ⟨hS, hk⟩, hC, hF⟩ := C
  obtain ⟨fs', h1, h2, h3, hEnd⟩ := X.leaveW hS (by rw [hT]; exact hk) (v := v) (fun q => hv (hret.symm.trans q)) hlk
  have hwm : (s.setVm vm).WarmedH T.vm := X.warmed
  refine ⟨T.setFrames fs', .returned v, st hx hby hret X h1, h2, h3, v, locs, rfl, ?_, ⟨hN, ?_⟩, ?_, ⟨hEnd.1, hEnd.2.1, hEnd.2.2.1, hEnd.2.2.2.mono hc hs⟩, fun q => ?_⟩
  · show Post v T.heap
    rw [hT]; exact hP
  · show Old Z n0 T.heap
    rw [hT]; exact hO
  · show CHr Z EL s.vm h0 T.vm T.heap
    rw [hT]; exact hC.trans (CHv.at X hZ hEL hC.1)
  · show s.WarmedH T.vm
    obtain ⟨q1, -⟩ := hnw q
    subst q1; exact hwm
theorem retV (hd : decode B pc = .ok (.return_, 1)) (hr : ret = none) (hc : ce ≤ R.cells) (hs : sl ≤ R.slots) (hP : Post none h) : Wq l nw Z EL a0 n0 y B ml ret R h0 Post fs h ce sl pc L [] :=
  leaves (fun _ => rfl) hc hs hP (fun hx hby hret X hl => X.returnOut hx (hret.trans hr) (Jvm.hb hby hd) hl)
theorem retA {v : Value} {t : FieldType} (hd : decode B pc = .ok (.areturn, 1)) (hr : ret = some t) (ht : t.isReference = true) (hv : v.isRef = true) (hc : ce ≤ R.cells) (hs : sl ≤ R.slots) (hP : Post (some v) h) : Wq l nw Z EL a0 n0 y B ml ret R h0 Post fs h ce sl pc L (v :: S) :=
  leaves (fun q => by rw [hr] at q; cases q) hc hs hP (fun hx hby hret X hl => retOut X hx (hret.trans hr) (by rcases ref_cases hv with rfl | ⟨q, rfl⟩ <;> cases t <;> rfl) (Or.inr (Or.inr (Or.inr (Or.inr ⟨rfl, ht, hv⟩)))) (Jvm.hb hby hd) hl)
theorem retI {z : Int32} {t : FieldType} (hd : decode B pc = .ok (.ireturn, 1)) (hr : ret = some t) (ht : t = .int ∨ t = .boolean ∨ t = .byte ∨ t = .char ∨ t = .short) (hn : narrow t (.int z) = .int z) (hc : ce ≤ R.cells) (hs : sl ≤ R.slots) (hP : Post (some (.int z)) h) : Wq l nw Z EL a0 n0 y B ml ret R h0 Post fs h ce sl pc L (.int z :: S) :=
  leaves (fun q => by rw [hr] at q; cases q) hc hs hP (fun hx hby hret X hl => retOut X hx (hret.trans hr) hn (Or.inl ⟨rfl, ht, z, rfl⟩) (Jvm.hb hby hd) hl)
theorem retJ {z : Int64} (hd : decode B pc = .ok (.lreturn, 1)) (hr : ret = some .long) (hc : ce ≤ R.cells) (hs : sl ≤ R.slots) (hP : Post (some (.long z)) h) : Wq l nw Z EL a0 n0 y B ml ret R h0 Post fs h ce sl pc L (.long z :: S) :=
  leaves (fun q => by rw [hr] at q; cases q) hc hs hP (fun hx hby hret X hl => retOut X hx (hret.trans hr) rfl (Or.inr (Or.inl ⟨rfl, rfl, z, rfl⟩)) (Jvm.hb hby hd) hl)
theorem retD {z : UInt64} (hd : decode B pc = .ok (.dreturn, 1)) (hr : ret = some .double) (hc : ce ≤ R.cells) (hs : sl ≤ R.slots) (hP : Post (some (.double z)) h) : Wq l nw Z EL a0 n0 y B ml ret R h0 Post fs h ce sl pc L (.double z :: S) :=
  leaves (fun q => by rw [hr] at q; cases q) hc hs hP (fun hx hby hret X hl => retOut X hx (hret.trans hr) rfl (Or.inr (Or.inr (Or.inl ⟨rfl, rfl, z, rfl⟩))) (Jvm.hb hby hd) hl)
end Rules
section Calls
variable {l : Launch} {nw : Bool} {Z : State} {EL : List (String × Nat)} {a0 : Array Value} {n0 : Nat} {y : MethodName} {B : ByteArray} {ml : Nat} {ret : Option FieldType} {R : Room} {h0 : Heap} {Post : Option Value → Heap → Prop} {fs : List Addr} {h : Heap} {ce sl pc pc' : Nat} {L : Array Slot} {S : List Value}
def Met (l : Launch) (nw : Bool) (Z : State) (EL : List (String × Nat)) (n0 : Nat) (y : MethodName) (B : ByteArray) (ml : Nat) (ret : Option FieldType) (R : Room) (ws : List Jvm.Cond) (as' : Array Value) (fs : List Addr) (h : Heap) (Post : Option Value → Heap → Prop) : Prop :=
  MetFree l y (head1 (Jvm.Cond.code y B ml ret :: ws) R) (fun a U => a = as' ∧ Z.Warmed39 U.vm ∧ U.heap = h ∧ CHv Z EL U.vm h ∧ Old Z n0 h ∧ ∀ x ∈ fs, n0 ≤ x ∧ x < h.size ∧ Safe Z EL U.vm h x) (fun _ _ _ _ _ => True)
    (fun _ U o U' => ∃ v L, o = .returned v ∧ (Post v U'.heap ∧ Fr n0 L ∧ Old Z n0 U'.heap) ∧ CHr Z EL U.vm U.heap U'.vm U'.heap ∧ ReturnedEndW U o U' L R.cells R.slots ∧ (nw = true → U.WarmedH U'.vm))
theorem Met.mono {ws : List Jvm.Cond} {as' : Array Value} {Post' : Option Value → Heap → Prop} (M : Met l nw Z EL n0 y B ml ret R ws as' fs h Post) (hP : ∀ v h', Post v h' → Post' v h') : Met l nw Z EL n0 y B ml ret R ws as' fs h Post' :=
  MetFree.mono M (fun _ _ q => q) (fun _ _ _ _ _ q => q) (fun _ _ _ _ _ ⟨v, L, h1, ⟨h2, h3⟩, h4⟩ => ⟨v, L, h1, ⟨hP v _ h2, h3⟩, h4⟩)
theorem Met.of_body {ws : List Jvm.Cond} {as' : Array Value} {L0 : Array Slot} (hpl : plainFor y = true) (hent : ∀ m, entryFrame m as' ml = mkF m 0 L0 []) (hw : ∀ d ∈ tables_1, d.before a0 Z = true) (hEL : EW Z a0 EL) (hnw : nw = true → EL = [])
    (K : Wq l nw Z EL a0 n0 y B ml ret R h Post fs h 0 0 0 L0 []) : Met l nw Z EL n0 y B ml ret R ws as' fs h Post := by
  refine MetFree.of_bodySF hpl hisR ?_
  intro p e s m args below meth c s₁ Bd hml0 hP hK
  obtain ⟨rfl, hZ, hh, hCv, hO, hF⟩ := hP
  have X0 : Stand p l e R (s.setVm s.vm) m args below meth c s₁ [] 0 0 := Stand.of_body Bd
  have e0 : s₁.heap = h := by rw [← hh, Bd.state]; rfl
  have hml : c.maxLocals = ml := hml0
  obtain ⟨s₂, o, h1, h2, h3, v, L, h4, h5, h6, h7, h8, h9⟩ := K p e s m args below meth c s₁ [] s.vm 0 ⟨⟨Bd.exec, Bd.bytes, hml, Bd.returns, BodyLoose.notSynchronized Bd, (name_of_methodNamed Bd.named Bd.method).1, findClass_of_methodNamed Bd.named, hh⟩, ⟨hZ, hw, hEL, fun q => ⟨rfl, hnw q⟩⟩, X0, e0, ⟨Fr.nil n0, hO⟩, ⟨(State.WarmedH.refl s).since 0, Nat.zero_le _⟩, CHr.refl hCv, hF⟩
  exact ⟨s₂, o, castTop (hent m) h1, h2, h3, v, L, h4, ⟨h5, h6⟩, by rw [hh]; exact h7, h8, h9⟩
def Kd (l : Launch) (Z : State) (a0 : Array Value) (y : MethodName) (B : ByteArray) (ml : Nat) (R : Room) (h : Heap) (ce sl pc : Nat) (L : Array Slot) (S : List Value) (z : MethodName) (len Wd : Nat) (as' : Array Value) (S' : List Value) : Prop :=
  ∀ (p : Program) (e : Env) (s : State) (m : MethodId) (args : Array Value) (below : List Frame) (meth : Method) (c : Code) (T : State) (locs : List Loc), p.tables.exec = Jvm.exec → c.code = B → s.vm.findClass y.cls = some m.cls → Z.Warmed39 s.vm → (∀ d ∈ tables_1, d.before a0 Z = true) → T.heap = h → c.maxLocals = ml → Stand p l e R s m args below meth c T locs ce sl →
    (∀ (Pre : Pt → Array Value → Prop) (Po : Pt → Array Value → Option Value → Pt → Prop), Back l R p e below s args z len Wd Pre Po → (∀ vm₁, s.WarmedH vm₁ → Pre ⟨T.setVm vm₁, locs, ce, sl⟩ as') →
      ∃ (v : Option Value) (vm₁ : Vm) (A : Pt), s.WarmedH vm₁ ∧ Stand p l e R s m args below meth c A.U A.locs A.cells A.slots ∧ Po ⟨T.setVm vm₁, locs, ce, sl⟩ as' v A ∧ ∀ u, Steps p.tables e below (A.U.setTop (mkF m (pc + len) L (v.toList ++ S'))) u → Steps p.tables e below (T.setTop (mkF m pc L S)) u) ∧
    (∀ (Pre : Pt → Array Value → Prop) (Po : Pt → Array Value → Option Value → Pt → Prop), BackS l R p e below s args z len Wd Pre Po → (∀ vm₁, s.WarmedH vm₁ → Pre ⟨T.setVm vm₁, locs, ce, sl⟩ as') →
      ∃ (v : Option Value) (vm₁ : Vm) (A : Pt), s.WarmedH vm₁ ∧ Stand p l e R (s.setVm A.U.vm) m args below meth c A.U A.locs A.cells A.slots ∧ s.Since A.U.vm A.U.heap.size ∧ T.heap.size ≤ A.U.heap.size ∧ Po ⟨T.setVm vm₁, locs, ce, sl⟩ as' v A ∧ ∀ u, Steps p.tables e below (A.U.setTop (mkF m (pc + len) L (v.toList ++ S'))) u → Steps p.tables e below (T.setTop (mkF m pc L S)) u)
theorem kStatic {i i2 i3 i4 ix mlz Wd : Nat} {z : MethodName} {Bz : ByteArray} {retz : Option FieldType} {argsL S' : List Value} {ps : List FieldType} {rz : Option FieldType} (hd : decode B pc = .ok (.invokestatic ix, 3)) (w : tables_1[i]? = some (.methodLink y.cls ix z)) (w2 : tables_1[i2]? = some (.static z)) (w3 : tables_1[i3]? = some (.initialized z.cls)) (w4 : tables_1[i4]? = some (.code z Bz mlz retz))
    (hy : z.cls ≠ "java/lang/invoke/MethodHandle" ∧ z.cls ≠ "java/lang/invoke/VarHandle") (hsz : L.size = ml) (hpd : parseMethodDescriptor z.desc = some ⟨ps, rz⟩) (hlen : argsL.length = ps.length) (hst : S = argsL.reverse ++ S') (hW : (S'.map fun v => v.category).sum ≤ Wd) : Kd l Z a0 y B ml R h ce sl pc L S z 3 Wd argsL.toArray S' :=
  fun p e s m args below meth c T locs hx hby hown hZ hw hT hml X =>
  ⟨fun Pre Po hK hpre => by
    obtain ⟨v, vm₁, A, a1, a2, a3, a4⟩ := Jvm.LawKit.callS X hx hown (mvT hZ (wat hw w)) (mvT hZ (wat hw w2)) (mvT hZ (wat hw w3)) (mvT hZ (wat hw w4)) hy hK (g := mkF m pc L S) rfl (hsz.trans hml.symm) (argsL := argsL) (rest := S') (lenOf hpd hlen) hst (by show 2 * 0 + _ ≤ _; omega) (Jvm.hb hby hd) hpre
    exact ⟨v, vm₁, A, a1, a2, a3, a4⟩,
   fun Pre Po hK hpre => by
    obtain ⟨v, vm₁, A, a1, a2, a3, a4, a5, a6⟩ := callSS X hx hown (mvT hZ (wat hw w)) (mvT hZ (wat hw w2)) (mvT hZ (wat hw w3)) (mvT hZ (wat hw w4)) hy hK (g := mkF m pc L S) rfl (hsz.trans hml.symm) (argsL := argsL) (rest := S') (lenOf hpd hlen) hst (by show 2 * 0 + _ ≤ _; omega) (Jvm.hb hby hd) hpre
    exact ⟨v, vm₁, A, a1, a2, a3, a4, a5, fun u q => a6.trans q⟩⟩
theorem kInit {i i2 i4 ix mlz Wd : Nat} {z : MethodName} {Bz : ByteArray} {argsL S' : List Value} {a : Addr} {ps : List FieldType} {rz : Option FieldType} (hd : decode B pc = .ok (.invokespecial ix, 3)) (hz : z.name = "<init>") (w : tables_1[i]? = some (.methodLink y.cls ix z)) (w2 : tables_1[i2]? = some (.instanceMethod z)) (w4 : tables_1[i4]? = some (.code z Bz mlz none))
    (hy : z.cls ≠ "java/lang/invoke/MethodHandle" ∧ z.cls ≠ "java/lang/invoke/VarHandle") (hsz : L.size = ml) (hpd : parseMethodDescriptor z.desc = some ⟨ps, rz⟩) (hlen : argsL.length = ps.length) (hst : S = argsL.reverse ++ .ref a :: S') (hW : (S'.map fun v => v.category).sum ≤ Wd) : Kd l Z a0 y B ml R h ce sl pc L S z 3 Wd (.ref a :: argsL).toArray S' :=
  fun p e s m args below meth c T locs hx hby hown hZ hw hT hml X =>
  ⟨fun Pre Po hK hpre => by
    obtain ⟨v, vm₁, A, a1, a2, a3, a4⟩ := X.specialBack hx hz hown (mvT hZ (wat hw w)) (mvT hZ (wat hw w2)) (mvT hZ (wat hw w4)) hy hK (g := mkF m pc L S) rfl (hsz.trans hml.symm) (Steps.refl _) (a := a) (argsL := argsL) (rest := S') (lenOf hpd hlen) hst (by show 2 * 0 + _ ≤ _; omega) (Jvm.hb hby hd) hpre
    exact ⟨v, vm₁, A, a1, a2, a3, fun u q => a4.trans q⟩,
   fun Pre Po hK hpre => by
    obtain ⟨v, vm₁, A, a1, a2, a3, a4, a5, a6⟩ := X.specialBackS hx hz hown (mvT hZ (wat hw w)) (mvT hZ (wat hw w2)) (mvT hZ (wat hw w4)) hy hK (g := mkF m pc L S) rfl (hsz.trans hml.symm) (Steps.refl _) (a := a) (argsL := argsL) (rest := S') (lenOf hpd hlen) hst (by show 2 * 0 + _ ≤ _; omega) (Jvm.hb hby hd) hpre
    exact ⟨v, vm₁, A, a1, a2, a3, a4, a5, fun u q => a6.trans q⟩⟩
theorem kVirt {i i2 i3 i4 ix Wd : Nat} {z : MethodName} {C : String} {argsL S' : List Value} {a : Addr} {ps : List FieldType} {rz : Option FieldType} (hd : decode B pc = .ok (.invokevirtual ix, 3)) (w : tables_1[i]? = some (.methodLink y.cls ix z)) (w2 : tables_1[i2]? = some (.declares z)) (w3 : tables_1[i3]? = some (.selects C z z)) (w4 : tables_1[i4]? = some (.instanceMethod z)) (E : Exa Z h a C)
    (hy : z.cls ≠ "java/lang/invoke/MethodHandle" ∧ z.cls ≠ "java/lang/invoke/VarHandle") (hsz : L.size = ml) (hpd : parseMethodDescriptor z.desc = some ⟨ps, rz⟩) (hlen : argsL.length = ps.length) (hst : S = argsL.reverse ++ .ref a :: S') (hW : (S'.map fun v => v.category).sum ≤ Wd) : Kd l Z a0 y B ml R h ce sl pc L S z 3 Wd (.ref a :: argsL).toArray S' :=
  fun p e s m args below meth c T locs hx hby hown hZ hw hT hml X => by
  obtain ⟨cB, kB, q1, q2, q3⟩ := isOf (s := s) (T := T) hZ hT E
  refine ⟨fun Pre Po hK hpre => ?_, fun Pre Po hK hpre => ?_⟩
  · obtain ⟨v, vm₁, A, a1, a2, a3, a4⟩ := X.virtualBack hx hown (mvT hZ (wat hw w)) (mvT hZ (wat hw w2)) (notFace_of_selects (args := #[]) (mvT hZ (wat hw w3))) (mvT hZ (wat hw w3)) (mvT hZ (wat hw w4)) hy hK q1 q3 (g := mkF m pc L S) rfl (hsz.trans hml.symm) (Steps.refl _) (argsL := argsL) (rest := S') (lenOf hpd hlen) hst (by show 2 * 0 + _ ≤ _; omega) (Jvm.hb hby hd) hpre
    exact ⟨v, vm₁, A, a1, a2, a3, fun u q => a4.trans q⟩
  · obtain ⟨v, vm₁, A, a1, a2, a3, a4, a5, a6⟩ := X.virtualBackS hx hown (mvT hZ (wat hw w)) (mvT hZ (wat hw w2)) (notFace_of_selects (args := #[]) (mvT hZ (wat hw w3))) (mvT hZ (wat hw w3)) (mvT hZ (wat hw w4)) hy hK q1 q3 (g := mkF m pc L S) rfl (hsz.trans hml.symm) (Steps.refl _) (argsL := argsL) (rest := S') (lenOf hpd hlen) hst (by show 2 * 0 + _ ≤ _; omega) (Jvm.hb hby hd) hpre
    exact ⟨v, vm₁, A, a1, a2, a3, a4, a5, fun u q => a6.trans q⟩
theorem nilBk {vm : Vm} {x : Addr} : Safe Z [] vm h x := fun ⟨_, q, _⟩ => nomatch q
theorem nilCHv {vm : Vm} : CHv Z [] vm h := fun _ q => nomatch q
theorem nilCHr {vm vm1 : Vm} {h' : Heap} (q : h.size ≤ h'.size) : CHr Z [] vm h vm1 h' := ⟨nilCHv, q, fun _ ⟨_, r, _⟩ => nomatch r⟩
/-- a callee by its contract, as the library's calls take it -/
theorem Met.backS {p : Program} {e : Env} {below : List Frame} {s : State} {args : Array Value} {vm : Vm} {z : MethodName} {Bz : ByteArray} {mlz len Wd : Nat} {retz : Option FieldType} {Rz : Room} {as' : Array Value} {fs' : List Addr} {Pz : Option Value → Heap → Prop}
    (M : Met l nw Z EL n0 z Bz mlz retz Rz [] as' fs' h Pz) (hZ : Z.Warmed39 vm) (wc : (Jvm.Cond.code z Bz mlz retz).before a0 Z = true) (wz : (Jvm.Cond.initialized z.cls).before a0 Z = true) (hf : Rz.frames + 1 ≤ R.frames) (hl : Wd + (mlz + 11) + Rz.locals ≤ R.locals) (hEL : EW Z a0 EL) (H : CHv Z EL vm h) (hO : Old Z n0 h) (hF : ∀ x ∈ fs', n0 ≤ x ∧ x < h.size ∧ Safe Z EL vm h x) :
    BackS l R p e below (s.setVm vm) args z len Wd (fun A a => a = as' ∧ A.U.heap = h ∧ A.cells + Rz.cells ≤ R.cells ∧ A.slots + Rz.slots ≤ R.slots)
      (fun A _ v A' => ∃ Lo, (Pz v A'.U.heap ∧ Fr n0 Lo ∧ Old Z n0 A'.U.heap) ∧ A'.locs = A.locs ++ Lo ∧ A'.cells = A.cells + Rz.cells ∧ A'.slots = A.slots + Rz.slots ∧ CHr Z EL vm h A'.U.vm A'.U.heap) :=
  BackS.of_freeW (bytes := Bz) (maxL := mlz) (ret := retz) (E := fun _ first o t Lo k n => k = Rz.cells ∧ n = Rz.slots ∧ (∃ v, o = .returned v ∧ Pz v t.heap ∧ Fr n0 Lo ∧ Old Z n0 t.heap) ∧ CHr Z EL first.vm first.heap t.vm t.heap) M hf hl
    (fun m meth c A a Y hp => have hU : Z.Warmed39 A.U.vm := wtrans (s := s.setVm vm) hZ Y.warmed
      ⟨by show (Cond.and _ .tt).before a A.U = true; rw [Cond.before_and, mv hU wc]; rfl, mv hU wc, mv hU wz, hp.2.2.1, hp.2.2.2⟩)
    (fun m meth c A a g mk Y hp => ⟨hp.1, wtrans (s := s.setVm vm) hZ Y.warmed, hp.2.1, (CHv.at Y hZ hEL H).1, hO, fun x q => ⟨(hF x q).1, (hF x q).2.1, (CHv.at Y hZ hEL H).safe (hF x q).2.1 (hF x q).2.2⟩⟩) (fun _ _ _ _ _ _ _ _ _ => trivial)
    (fun _ _ _ _ ⟨v, Lo, h1, h2, h3, h4, _⟩ => ⟨Lo, _, _, h4, rfl, rfl, ⟨v, h1, h2⟩, h3⟩)
    (fun m meth c A a g mk v t Lo k n Y hp _ _ ⟨e1, e2, ⟨v', e3, e4⟩, e5⟩ => by
      cases e3; subst e1 e2
      refine ⟨Lo, e4, rfl, rfl, rfl, (CHv.at Y hZ hEL H).trans ?_⟩
      rw [← hp.2.1]; exact e5)
theorem call {i i2 : Nat} {z : MethodName} {Bz : ByteArray} {mlz len Wd : Nat} {retz : Option FieldType} {Rz : Room} {as' : Array Value} {fs' : List Addr} {Pz : Option Value → Heap → Prop} {S' : List Value} (kd : Kd l Z a0 y B ml R h ce sl pc L S z len Wd as' S') (M : Met l nw Z EL n0 z Bz mlz retz Rz [] as' fs' h Pz) (wc : tables_1[i]? = some (.code z Bz mlz retz)) (wz : tables_1[i2]? = some (.initialized z.cls))
    (hfs : ∀ x ∈ fs', x ∈ fs) (hf : Rz.frames + 1 ≤ R.frames) (hl : Wd + (mlz + 11) + Rz.locals ≤ R.locals) (hc : ce + Rz.cells ≤ R.cells) (hs : sl + Rz.slots ≤ R.slots) (hp : pc + len = pc')
    (K : ∀ v h', Pz v h' → h.size ≤ h'.size → Wq l nw Z EL a0 n0 y B ml ret R h0 Post fs h' (ce + Rz.cells) (sl + Rz.slots) pc' L (v.toList ++ S')) : Wq l nw Z EL a0 n0 y B ml ret R h0 Post fs h ce sl pc L S := fun p e s m args below meth c T locs vm k C => by
  obtain ⟨⟨hx, hby, hml, hret, hlk, hnm, hown, hh0⟩, ⟨hZ, hw, hEL, hnw⟩, X, hT, ⟨hN, hO⟩, ⟨hS, hk⟩, hC, hF⟩ := C
  subst hp
  cases hq : nw with
  | true =>
    obtain ⟨q1, rfl⟩ := hnw hq
    have M' : MetFree l z (head1 [Jvm.Cond.code z Bz mlz retz] Rz) (fun a U => a = as' ∧ Z.Warmed39 U.vm ∧ U.heap = h) (fun _ _ _ _ _ => True) (fun _ U o U' => ∃ v Lo, o = .returned v ∧ (Pz v U'.heap ∧ Fr n0 Lo ∧ Old Z n0 U'.heap ∧ h.size ≤ U'.heap.size) ∧ FrameEnd U o U' Lo Rz.cells Rz.slots) :=
      MetFree.mono M (fun a U q => ⟨q.1, q.2.1, q.2.2, nilCHv, hO, fun x r => ⟨(hF x (hfs x r)).1, (hF x (hfs x r)).2.1, nilBk⟩⟩) (fun _ _ _ _ _ q => q) (fun a U o U' hP ⟨v, Lo, h1, h2, h3, h4, h5⟩ => ⟨v, Lo, h1, ⟨h2.1, h2.2.1, h2.2.2, by have := h3.2.1; rw [hP.2.2] at this; exact this⟩, ⟨v, h1⟩, h5 hq, h4.2.2.2⟩)
    obtain ⟨v, vm₁, ⟨T', L', c', n'⟩, -, X', ⟨Lo, ⟨hP, hN', hO', hsz⟩, l1, l2, l3⟩, st⟩ := (kd p e (s.setVm vm) m args below meth c T locs hx hby hown hZ hw hT hml X).1 _ _ (backOf (W := Wd) (s := s.setVm vm) (Q := fun v h' Lo => Pz v h' ∧ Fr n0 Lo ∧ Old Z n0 h' ∧ h.size ≤ h'.size) M' hZ (wat hw wc) (wat hw wz) hf hl) (fun vm₁ _ => ⟨rfl, hT, hc, hs⟩)
    dsimp only [Pt.U, Pt.locs, Pt.cells, Pt.slots] at X' hP hO' hsz l1 l2 l3 st
    subst l1 l2 l3
    have := K v T'.heap hP hsz p e s m args below meth c T' _ vm k ⟨⟨hx, hby, hml, hret, hlk, hnm, hown, hh0⟩, ⟨hZ, hw, hEL, hnw⟩, X', rfl, ⟨hN.app hN', hO'⟩, ⟨hS, Nat.le_trans hk hsz⟩, nilCHr (Nat.le_trans hC.2.1 hsz), fun x r => ⟨(hF x r).1, Nat.lt_of_lt_of_le (hF x r).2.1 hsz, nilBk⟩⟩
    rw [hq] at this
    exact this.st st
  | false =>
    obtain ⟨v, vm₁, ⟨T', L', c', n'⟩, -, X', hS', hsz, ⟨Lo, ⟨hP, hN', hO'⟩, l1, l2, l3, hC'⟩, st⟩ := (kd p e (s.setVm vm) m args below meth c T locs hx hby hown hZ hw hT hml X).2 _ _ (Met.backS (R := R) (Wd := Wd) (a0 := a0) M hZ (wat hw wc) (wat hw wz) hf hl hEL hC.1 hO (fun x r => hF x (hfs x r))) (fun vm₁ _ => ⟨rfl, hT, hc, hs⟩)
    dsimp only [Pt.U, Pt.locs, Pt.cells, Pt.slots] at X' hP hO' hS' hsz l1 l2 l3 hC' st
    subst l1 l2 l3
    have hsz' : h.size ≤ T'.heap.size := by rw [← hT]; exact hsz
    have hW2 : (s.setVm vm).Warmed39 T'.vm := hS'.1
    have hZ' : Z.Warmed39 T'.vm := State.Warmed39.trans (t := s.setVm vm) hZ hW2
    have := K v T'.heap hP hsz' p e s m args below meth c T' _ T'.vm T'.heap.size ⟨⟨hx, hby, hml, hret, hlk, hnm, by rw [hW2.alike.findClass]; exact hown, hh0⟩, ⟨hZ', hw, hEL, fun q => by rw [hq] at q; cases q⟩, X', rfl, ⟨hN.app hN', hO'⟩, ⟨hS.trans hS' (Nat.le_trans hk hsz'), Nat.le_refl _⟩, hC.trans hC', fun x r => ⟨(hF x r).1, Nat.lt_of_lt_of_le (hF x r).2.1 hsz', hC'.safe (hF x r).2.1 (hF x r).2.2⟩⟩
    rw [hq] at this
    exact this.st st
/-- a callee by a law of the library's (or pasted) shape -/
theorem callB {z : MethodName} {len Wd kc ks : Nat} {as' : Array Value} {Qb : Option Value → Heap → List Loc → Prop} {S' : List Value} {ws : List Addr} (kd : Kd l Z a0 y B ml R h ce sl pc L S z len Wd as' S')
    (hK : ∀ {p : Program} {e : Env} {below : List Frame} {s : State} {args : Array Value}, Z.Warmed39 s.vm → (∀ d ∈ tables_1, d.before a0 Z = true) → Back l R p e below s args z len Wd (fun A a => a = as' ∧ A.U.heap = h ∧ A.cells + kc ≤ R.cells ∧ A.slots + ks ≤ R.slots) (fun A _ v A' => ∃ Lo, Qb v A'.U.heap Lo ∧ A'.locs = A.locs ++ Lo ∧ A'.cells = A.cells + kc ∧ A'.slots = A.slots + ks))
    (hws : ∀ x ∈ ws, x ∈ fs) (hQ : ∀ v h' Lo, Qb v h' Lo → Fr n0 Lo ∧ Keep h h' ws) (hc : ce + kc ≤ R.cells) (hs : sl + ks ≤ R.slots) (hp : pc + len = pc')
    (K : ∀ v h' Lo, Qb v h' Lo → Wq l nw Z EL a0 n0 y B ml ret R h0 Post fs h' (ce + kc) (sl + ks) pc' L (v.toList ++ S')) : Wq l nw Z EL a0 n0 y B ml ret R h0 Post fs h ce sl pc L S := fun p e s m args below meth c T locs vm k C => by
  obtain ⟨⟨hx, hby, hml, hret, hlk, hnm, hown, hh0⟩, ⟨hZ, hw, hEL, hnw⟩, X, hT, ⟨hN, hO⟩, ⟨hS, hk⟩, hC, hF⟩ := C
  subst hp
  obtain ⟨v, vm₁, ⟨T', L', c', n'⟩, -, X', ⟨Lo, hP, l1, l2, l3⟩, st⟩ := (kd p e (s.setVm vm) m args below meth c T locs hx hby hown hZ hw hT hml X).1 _ _ (hK (s := s.setVm vm) hZ hw) (fun vm₁ _ => ⟨rfl, hT, hc, hs⟩)
  dsimp only [Pt.U, Pt.locs, Pt.cells, Pt.slots] at X' hP l1 l2 l3 st
  subst l1 l2 l3
  obtain ⟨hN', hKp⟩ := hQ v _ Lo hP
  have hsf : ∀ x ∈ ws, Safe Z EL vm h x := fun x r => (hF x (hws x r)).2.2
  exact (K v T'.heap Lo hP p e s m args below meth c T' _ vm k ⟨⟨hx, hby, hml, hret, hlk, hnm, hown, hh0⟩, ⟨hZ, hw, hEL, hnw⟩, X', rfl, ⟨hN.app hN', hO.keep hKp (fun x r => (hF x (hws x r)).1)⟩, ⟨hS, Nat.le_trans hk hKp.1⟩, hC.trans (CHr.keep hKp hsf hC.1), fun x r => ⟨(hF x r).1, Nat.lt_of_lt_of_le (hF x r).2.1 hKp.1, Safe.keep hKp hsf hC.1 (hF x r).2.2⟩⟩).st st
end Calls
end Ow
end Jvm.Pilot.@@N@@
namespace Jvm.Pilot.@@N@@
open Jvm Jvm.ClassFile Sem Op Lib Jvm.Free Jvm.Stand Jvm.LawKit Jvm.RoadKit Bundle Jvm.Pilot.@@N@@.Jvm.D
namespace Ow
abbrev ST : String := "java/lang/String"
/-- the sets: compact strings are on; the formatter is a reference -/
def Sets (Z : State) : Prop := ∃ (zc : Int32) (fm : Value), Sta Z Z.heap ST "COMPACT_STRINGS" "Z" (.int zc) ∧ ¬ zc = 0 ∧ Sta Z Z.heap "jdk/internal/util/Preconditions" "SIOOBE_FORMATTER" "Ljava/util/function/BiFunction;" fm ∧ fm.isRef = true
abbrev lat (cs : List Int32) : List Value := (cs.map fun c => c.toInt8.toInt32).map Value.int
/-- a String of the chars cs, each 0 to 255 -/
def Str (Z : State) (h : Heap) (a : Addr) (cs : List Int32) : Prop := Exa Z h a ST ∧ Fld Z h a ST "coder" "B" (.int 0) ∧ (∃ (t : Addr) (kb : ClassId), Fld Z h a ST "value" "[B" (.ref t) ∧ Arv Z h t kb .byte (Int32.ofNat cs.length) (lat cs) (.int 0)) ∧ (∀ c ∈ cs, ¬ c < 0 ∧ ¬ (255 : Int32) < c) ∧ cs.length ≤ 4000
section StrFacts
variable {Z : State} {h h' : Heap} {a x : Addr} {cs : List Int32} {C : String} {a0 : Array Value} {k : Nat}
theorem Str.exa (F : Str Z h a cs) : Exa Z h a ST := F.1
theorem Str.lt (F : Str Z h a cs) : a < h.size := F.1.lt
theorem Str.ext (F : Str Z h a cs) (E : Ext h h') : Str Z h' a cs := by
  obtain ⟨e, c, ⟨t, kb, v, ar⟩, r⟩ := F
  exact ⟨e.ext E, c.ext E, ⟨t, kb, v.ext E, ar.ext E⟩, r⟩
theorem Str.keep1 (F : Str Z h a cs) (K : Keep h h' [x]) (ne : a ≠ x) (E : Exa Z h x C) (w : (Jvm.Cond.instantiable C k).before a0 Z = true) : Str Z h' a cs := by
  obtain ⟨e, c, ⟨t, kb, v, ar⟩, r⟩ := F
  have q : t ≠ x := Ne.symm (E.neArv ar w)
  exact ⟨e.keep K, c.keep K (ninS ne nin0), ⟨t, kb, v.keep K (ninS ne nin0), ar.keep K (ninS q nin0)⟩, r⟩
theorem up (h : ∀ c ∈ cs, ¬ c < 0 ∧ ¬ (255 : Int32) < c) : ∀ c ∈ cs, ¬ c < 0 ∧ ¬ (65535 : Int32) < c := fun c hc => ⟨(h c hc).1, fun q => (h c hc).2 (by rw [Int32.lt_iff_toInt_lt] at q ⊢; have e1 : (65535 : Int32).toInt = 65535 := rfl; have e2 : (255 : Int32).toInt = 255 := rfl; omega)⟩
theorem keepExt (K : Keep h h' []) : Ext h h' := ⟨K.1, fun q c r => K.2.1 q c r nin0⟩
theorem Str.wr1 {sl : Nat} {v : Value} (F : Str Z h a cs) (K : Wr h h' x sl v) (ne : a ≠ x) (E : Exa Z h x C) (w : (Jvm.Cond.instantiable C k).before a0 Z = true) : Str Z h' a cs := F.keep1 (Keep.of_wr K) ne E w
end StrFacts
section StrRules
variable {l : Launch} {nw : Bool} {Z : State} {EL : List (String × Nat)} {a0 : Array Value} {n0 : Nat} {y : MethodName} {B : ByteArray} {ml : Nat} {ret : Option FieldType} {R : Room} {h0 : Heap} {Post : Option Value → Heap → Prop} {fs : List Addr} {h : Heap} {ce sl pc pc' : Nat} {L : Array Slot} {S S' : List Value}
/-- new String(chars): the call of the constructor, a char[] of 1 to 4,000 chars, each 0 to 255 -/
theorem strNew {i Wd n : Nat} {x b : Addr} {kC : ClassId} {cs : List Int32} {d v0 c0 : Value} {N : Int32} (hB : Sets Z) (hws : ∀ d ∈ StrChars.Road.words, d ∈ tables_1) (wi : tables_1[i]? = some (.instantiable ST 4)) (kd : Kd l Z a0 y B ml R h ce sl pc L S (⟨"java/lang/String", "<init>", "([C)V"⟩ : MethodName) 3 Wd #[.ref x, .ref b] S')
    (E : Exa Z h x ST) (Vf : Fld Z h x ST "value" "[B" v0) (Cf : Fld Z h x ST "coder" "B" c0) (A : Arv Z h b kC .char N (cs.map Value.int) d) (hn : cs.length = n) (hN : N = Int32.ofNat n) (l0 : 0 < n) (l2 : n ≤ 4000) (hp : ∀ c ∈ cs, ¬ c < 0 ∧ ¬ (255 : Int32) < c) (hx : x ∈ fs)
    (hfr : 4 ≤ R.frames) (hlo : Wd + 65 ≤ R.locals) (hc : ce + 1 ≤ R.cells) (hs : sl + n ≤ R.slots) (hpc : pc + 3 = pc') (K : ∀ h', Keep h h' [x] → Str Z h' x cs → Wq l nw Z EL a0 n0 y B ml ret R h0 Post fs h' (ce + 1) (sl + n) pc' L S') : Wq l nw Z EL a0 n0 y B ml ret R h0 Post fs h ce sl pc L S := by
  obtain ⟨zc, fm, Cs, hz, -, -⟩ := hB
  refine old fun O _ => fsz fun F => ?_
  refine callB (ws := [x]) (kc := 1) (ks := n) (Qb := StrChars.Road.QV Z x N (cs.map fun c => c.toInt8.toInt32) h n0) kd (fun hZ hw => StrChars.Road.backV (W := Wd) hZ (fun d q => hw d (hws d q)) (kI := 4) (wat hw wi) (F x hx).1 (by have := O.2.1; rw [O.1] at this; exact this) E Vf Cf A (Cs.ext O.2) hz hn hN l0 l2 hp rfl hfr hlo)
    (fun z q => by cases List.mem_singleton.mp q; exact hx) (fun v h' Lo q => ⟨q.2.1, q.2.2.1⟩) hc hs hpc (fun v h' Lo q => ?_)
  obtain ⟨rfl, -, q3, q4, q5, t, kb, -, -, -, q6, q7⟩ := q
  exact K h' q3 ⟨q4, q5, ⟨t, kb, q6, by rw [hn, ← hN]; exact q7⟩, hp, by omega⟩
theorem strEq {i Wd : Nat} {x z : Addr} {cs ds : List Int32} (hB : Sets Z) (hws : ∀ d ∈ StrChars.Road.wordsEq, d ∈ tables_1) (wi : tables_1[i]? = some (.instantiable ST 4)) (kd : Kd l Z a0 y B ml R h ce sl pc L S (⟨"java/lang/String", "equals", "(Ljava/lang/Object;)Z"⟩ : MethodName) 3 Wd #[.ref x, .ref z] S')
    (F : Str Z h x cs) (G : Str Z h z ds) (hfr : 2 ≤ R.frames) (hlo : Wd + 28 ≤ R.locals) (hc : ce ≤ R.cells) (hs : sl ≤ R.slots) (hpc : pc + 3 = pc') (K : ∀ b : Int32, ((b = 1 ∧ cs = ds) ∨ (b = 0 ∧ ¬ cs = ds)) → Wq l nw Z EL a0 n0 y B ml ret R h0 Post fs h ce sl pc' L (.int b :: S')) : Wq l nw Z EL a0 n0 y B ml ret R h0 Post fs h ce sl pc L S := by
  obtain ⟨zc, fm, Cs, hz, -, -⟩ := hB
  obtain ⟨e, c, ⟨t, kb, v, ar⟩, hp, l2⟩ := F
  obtain ⟨e', c', ⟨t', kb', v', ar'⟩, hp', l2'⟩ := G
  refine old fun O _ => ?_
  refine callB (ws := []) (kc := 0) (ks := 0) (Qb := fun v h' Lo => ((v = some (.int 1) ∧ cs = ds) ∨ (v = some (.int 0) ∧ ¬ cs = ds)) ∧ Lo = [] ∧ h' = h) kd (fun hZ hw => StrChars.Road.eqW (W := Wd) hZ (fun d q => hw d (hws d q)) (kI := 4) (wat hw wi) e v c ar (StrChars.Road.codOf rfl fun c q => (hp c q).2) (up hp) l2 e' v' c' ar' (StrChars.Road.codOf rfl fun c q => (hp' c q).2) (up hp') l2' (Cs.ext O.2) hz hfr hlo)
    (fun z q => nomatch q) (fun v h' Lo q => by obtain ⟨-, rfl, rfl⟩ := q; exact ⟨Fr.nil _, Keep.refl _ _⟩) hc hs hpc (fun v h' Lo q => ?_)
  obtain ⟨q, rfl, rfl⟩ := q
  rcases q with ⟨rfl, q⟩ | ⟨rfl, q⟩
  · exact K 1 (Or.inl ⟨rfl, q⟩)
  · exact K 0 (Or.inr ⟨rfl, q⟩)
theorem strLen {i Wd : Nat} {x : Addr} {cs : List Int32} (hB : Sets Z) (hws : ∀ d ∈ StrChars.Road.wordsLen, d ∈ tables_1) (wi : tables_1[i]? = some (.instantiable ST 4)) (kd : Kd l Z a0 y B ml R h ce sl pc L S (⟨"java/lang/String", "length", "()I"⟩ : MethodName) 3 Wd #[.ref x] S')
    (F : Str Z h x cs) (hfr : 2 ≤ R.frames) (hlo : Wd + 25 ≤ R.locals) (hc : ce ≤ R.cells) (hs : sl ≤ R.slots) (hpc : pc + 3 = pc') (K : Wq l nw Z EL a0 n0 y B ml ret R h0 Post fs h ce sl pc' L (.int (Int32.ofNat cs.length) :: S')) : Wq l nw Z EL a0 n0 y B ml ret R h0 Post fs h ce sl pc L S := by
  obtain ⟨zc, fm, Cs, hz, -, -⟩ := hB
  obtain ⟨e, c, ⟨t, kb, v, ar⟩, hp, l2⟩ := F
  refine old fun O _ => ?_
  refine callB (ws := []) (kc := 0) (ks := 0) (Qb := fun v h' Lo => v = some (.int (Int32.ofNat cs.length)) ∧ Lo = [] ∧ h' = h) kd (fun hZ hw => StrChars.Road.lenW (W := Wd) hZ (fun d q => hw d (hws d q)) (kI := 4) (wat hw wi) e v c ar (StrChars.Road.codOf rfl fun c q => (hp c q).2) (up hp) (Cs.ext O.2) hz l2 hfr hlo)
    (fun z q => nomatch q) (fun v h' Lo q => by obtain ⟨-, rfl, rfl⟩ := q; exact ⟨Fr.nil _, Keep.refl _ _⟩) hc hs hpc (fun v h' Lo q => ?_)
  obtain ⟨rfl, rfl, rfl⟩ := q
  exact K
theorem strAt {i j Wd len : Nat} {x : Addr} {cs : List Int32} {jj c : Int32} (hB : Sets Z) (hws : ∀ d ∈ StrChars.Road.wordsChN, d ∈ tables_1) (wi : tables_1[i]? = some (.instantiable ST 4)) (kd : Kd l Z a0 y B ml R h ce sl pc L S (⟨"java/lang/String", "charAt", "(I)C"⟩ : MethodName) len Wd #[.ref x, .int jj] S')
    (F : Str Z h x cs) (hj : j < cs.length) (hjj : jj = Int32.ofNat j) (hcv : cs.getD j 0 = c) (hfr : 4 ≤ R.frames) (hlo : Wd + 53 ≤ R.locals) (hc : ce ≤ R.cells) (hs : sl ≤ R.slots) (hpc : pc + len = pc') (K : Wq l nw Z EL a0 n0 y B ml ret R h0 Post fs h ce sl pc' L (.int c :: S')) : Wq l nw Z EL a0 n0 y B ml ret R h0 Post fs h ce sl pc L S := by
  obtain ⟨zc, fm, Cs, hz, Sf, hfm⟩ := hB
  obtain ⟨e, co, ⟨t, kb, v, ar⟩, hp, l2⟩ := F
  subst hcv
  refine old fun O _ => ?_
  refine callB (ws := []) (kc := 0) (ks := 0) (Qb := fun v h' Lo => v = some (.int (cs.getD j 0)) ∧ Lo = [] ∧ h' = h) kd (fun hZ hw => StrChars.Road.chN (W := Wd) hZ (fun d q => hw d (hws d q)) (kI := 4) (wat hw wi) e v co ar (StrChars.Road.codOf rfl fun c q => (hp c q).2) (up hp) (Cs.ext O.2) hz (Sf.ext O.2) hfm l2 hj hjj hfr hlo)
    (fun z q => nomatch q) (fun v h' Lo q => by obtain ⟨-, rfl, rfl⟩ := q; exact ⟨Fr.nil _, Keep.refl _ _⟩) hc hs hpc (fun v h' Lo q => ?_)
  obtain ⟨rfl, rfl, rfl⟩ := q
  exact K
end StrRules
end Ow
end Jvm.Pilot.@@N@@
namespace Jvm.Pilot.@@N@@
open Jvm Jvm.ClassFile Sem Op Lib Jvm.Free Jvm.Stand Jvm.LawKit Jvm.RoadKit Bundle Jvm.Pilot.@@N@@.Jvm.D
namespace Ow
section Text
variable {l : Launch} {nw : Bool} {Z : State} {EL : List (String × Nat)} {a0 : Array Value} {n0 : Nat} {y : MethodName} {B : ByteArray} {ml : Nat} {ret : Option FieldType} {R : Room} {h0 : Heap} {Post : Option Value → Heap → Prop} {fs : List Addr} {h : Heap} {ce sl pc pc' : Nat} {L : Array Slot} {S : List Value}
/-- ldc of a String constant, its text told -/
theorem ldcText {i ix n : Nat} {text : String} {cs : List Int32} (hd : decode B pc = .ok (.ldc ix, 2)) (w : tables_1[i]? = some (.stringLink y.cls ix text)) (hwS : ∀ d ∈ Bundle.stringAtoms, d ∈ tables_1) (hmem : (y.cls, ix) ∈ EL) (hnn : nw = false)
    (ht : (∀ c ∈ text.toList, c.toNat < 256) ∧ text.toList.map (fun c => Value.int (Jvm.Lit.byteI c.toNat.toUInt16)) = lat cs) (hp : ∀ c ∈ cs, ¬ c < 0 ∧ ¬ (255 : Int32) < c) (hl : cs.length ≤ 4000) (hn : 4 * text.toList.length ≤ n) (hbig : n ≤ 536870912) (hc : ce + 2 ≤ R.cells) (hs : sl + (n + 4) ≤ R.slots) (hpc : pc + 2 = pc')
    (K : ∀ h' a, Ext h h' → Str Z h' a cs → (∀ x ∈ fs, x ≠ a) → Wq l nw Z EL a0 n0 y B ml ret R h0 Post fs h' (ce + 2) (sl + (n + 4)) pc' L (.ref a :: S)) : Wq l nw Z EL a0 n0 y B ml ret R h0 Post fs h ce sl pc L S := by
  have hzz : (Int32.ofNat cs.length).toInt = cs.length := Int32.toInt_ofNat_small (by omega)
  exact ldcStr hd w hwS hmem hnn ht (z := Int32.ofNat cs.length) (by rw [Int32.lt_iff_toInt_lt, hzz]; simp) (by rw [Int32.toNatClampNeg, hzz]; simp [lat]) hn hbig hc hs hpc fun h' a b kc E A C V F N => K h' a E ⟨A, C, ⟨b, kc, V, F⟩, hp, hl⟩ fun x q => (N x q).1
end Text
theorem eqNull {args : Array Value} {s : State} {t : Term} (h : (Cond.eq t .null).value args s none s [] = some true) : t.eval args s none [] s = some .null := by
  cases ht : t.eval args s none [] s with
  | none => simp [Cond.value, ht] at h
  | some v => cases v <;> simp [Cond.value, Term.eval, ht] at h ⊢
end Ow
end Jvm.Pilot.@@N@@
namespace Jvm.Pilot.@@N@@
open Jvm Jvm.ClassFile Sem Op Lib Jvm.Free Jvm.Stand Jvm.LawKit Jvm.RoadKit Bundle Jvm.Pilot.@@N@@.Jvm.D
namespace Ow
/-! From the words of a case (at the start s) to facts on the start's heap -/
section Words
variable {args : Array Value} {s : State} {t u : Term} {x : Addr} {z : Int32} {cl : Cell} {ty : FieldType}
theorem eqI (h : (Cond.eq t (.int z)).value args s none s [] = some true) : t.eval args s none [] s = some (.int z) := by
  cases ht : t.eval args s none [] s with
  | none => simp [Cond.value, ht] at h
  | some v => cases v <;> simp [Cond.value, Term.eval, ht] at h ⊢; exact h
theorem eqA (hu : u.eval args s none [] s = some (.ref x)) (h : (Cond.eq t u).value args s none s [] = some true) : t.eval args s none [] s = some (.ref x) := by
  cases ht : t.eval args s none [] s with
  | none => simp [Cond.value, ht] at h
  | some v => cases v <;> simp [Cond.value, hu, ht] at h ⊢; exact h
theorem lenI (ht : t.eval args s none [] s = some (.ref x)) (A : Arr s s.heap x cl ty) (h : (Cond.eq (.length t) (.int z)).value args s none s [] = some true) : cl.slots.size < 2 ^ 31 ∧ cl.slots.size.toInt32 = z := by
  have e := eqI h
  have q := A.fin (U := s) (Vm.Alike.refl _)
  simp only [Term.eval, ht, q, Option.bind_eq_bind, Option.bind_some] at e
  split at e
  · rename_i hlt
    exact ⟨hlt, by simpa using e⟩
  · cases e
theorem elemI {j : Int32} {v : Value} (ht : t.eval args s none [] s = some (.ref x)) (A : Arr s s.heap x cl ty) (e : (Term.elem t (.int j)).eval args s none [] s = some v) : cl.slots[j.toNatClampNeg]? = some v :=
  (elem_in e ht rfl A.1).2
/-- an array of the start: its length and components as the words say -/
theorem arr_of (hfit : Fit s) {vs : List Value} {dv : Value} (ht : t.eval args s none [] s = some (.ref x)) (h1 : (Cond.arrayOf t ty).value args s none s [] = some true) (h2 : (Cond.eq (.length t) (.int z)).value args s none s [] = some true) (hz : ¬ z < 0) (hl : z.toNatClampNeg = vs.length)
    (h3 : ∀ (i : Nat) (hi : i < vs.length), (Term.elem t (.int (Int32.ofNat i))).eval args s none [] s = some vs[i]) (hbig : vs.length < 2 ^ 31) : ∃ kc, Arv s s.heap x kc ty z vs dv := by
  obtain ⟨cl, A⟩ := Arr.start ht h1
  obtain ⟨q1, q2⟩ := lenI ht A h2
  have hsz : cl.slots.size = vs.length := by
    rw [← hl, ← q2, Int32.toNatClampNeg, len_toInt q1]; simp
  have hat : ∀ (i : Nat) (hi : i < vs.length), cl.slots[i]? = some vs[i] := fun i hi => by
    have e := elemI ht A (h3 i hi)
    have ei : (Int32.ofNat i).toNatClampNeg = i := by
      have : (Int32.ofNat i).toInt = i := Int32.toInt_ofNat_small (by omega)
      rw [Int32.toNatClampNeg, this]; simp
    rw [ei] at e
    exact e
  refine ⟨cl.cls, cl, A, rfl, hsz.trans hl.symm, hz, fun i hi => ?_, fun i hi => ?_⟩
  · have hi' : i < vs.length := by omega
    rw [hat i hi', List.getD_eq_getElem?_getD, List.getElem?_eq_getElem hi']; rfl
  · have hi' : i < vs.length := by omega
    have ei : i.toInt32.toNatClampNeg = i := by
      have : (Int32.ofNat i).toInt = i := Int32.toInt_ofNat_small (by omega)
      show (Int32.ofNat i).toNatClampNeg = i
      rw [Int32.toNatClampNeg, this]; simp
    have e : cl.slots[i.toInt32.toNatClampNeg]? = some (vs.getD i dv) := by rw [ei, hat i hi', List.getD_eq_getElem?_getD, List.getElem?_eq_getElem hi']; rfl
    exact elem_fits hfit A (idx_in (by omega) q1) e
theorem fld_start {C n d : String} {v : Value} (ht : t.eval args s none [] s = some (.ref x)) (h : (Term.field t C n d).eval args s none [] s = some v) : Fld s s.heap x C n d v := Fld.start ((fld_at ht).symm.trans h)
end Words
end Ow
end Jvm.Pilot.@@N@@
namespace Jvm.Pilot.@@N@@
open Jvm Jvm.ClassFile Sem Op Lib Jvm.Free Jvm.Stand Jvm.LawKit Jvm.RoadKit Bundle Jvm.Pilot.@@N@@.Jvm.D
namespace Ow
/-- a String of the start, as the words say -/
theorem str_of {args : Array Value} {s : State} {t : Term} {x : Addr} {cs : List Int32} {z : Int32} (hfit : Fit s) (ht : t.eval args s none [] s = some (.ref x)) (h0 : (Cond.exactly t ST).value args s none s [] = some true) (h1 : (Cond.eq (.field t ST "coder" "B") (.int 0)).value args s none s [] = some true) (h2 : (Cond.arrayOf (.field t ST "value" "[B") .byte).value args s none s [] = some true)
    (h3 : (Cond.eq (.length (.field t ST "value" "[B")) (.int z)).value args s none s [] = some true) (hz : z = Int32.ofNat cs.length) (hl : cs.length ≤ 4000) (hp : ∀ c ∈ cs, ¬ c < 0 ∧ ¬ (255 : Int32) < c)
    (h4 : ∀ (i : Nat) (hi : i < cs.length), (Term.elem (.field t ST "value" "[B") (.int (Int32.ofNat i))).eval args s none [] s = some (.int cs[i].toInt8.toInt32)) : Str s s.heap x cs := by
  obtain ⟨a, ha⟩ := arr_v h2
  have hzz : (Int32.ofNat cs.length).toInt = cs.length := Int32.toInt_ofNat_small (by omega)
  obtain ⟨kc, F⟩ := arr_of (vs := lat cs) (dv := .int 0) hfit ha h2 h3 (by subst hz; rw [Int32.lt_iff_toInt_lt, hzz]; simp) (by subst hz; rw [Int32.toNatClampNeg, hzz]; simp [lat]) (fun i hi => by
    have hi' : i < cs.length := by simpa [lat] using hi
    rw [h4 i hi']; simp [lat]) (by simp [lat]; omega)
  subst hz
  exact ⟨Exa.start ht h0, fld_start ht (eqI h1), ⟨a, kc, fld_start ht ha, F⟩, hp, hl⟩
end Ow
end Jvm.Pilot.@@N@@
namespace Jvm.Pilot.@@N@@
open Jvm Jvm.ClassFile Sem Op Lib Jvm.Free Jvm.Stand Jvm.LawKit Jvm.RoadKit Bundle Jvm.Pilot.@@N@@.Jvm.D Ow
theorem d_jdk_42_method_149_0 : decode jdk_42_method_149_code 0 = .ok (.aload_n 0, 1) := by decide +kernel
theorem d_jdk_42_method_149_1 : decode jdk_42_method_149_code 1 = .ok (.invokespecial 1, 3) := by decide +kernel
theorem d_jdk_42_method_149_4 : decode jdk_42_method_149_code 4 = .ok (.iload_n 3, 1) := by decide +kernel
theorem d_jdk_42_method_149_5 : decode jdk_42_method_149_code 5 = .ok (.ifCond .ne 22, 3) := by decide +kernel
theorem d_jdk_42_method_149_8 : decode jdk_42_method_149_code 8 = .ok (.aload_n 0, 1) := by decide +kernel
theorem d_jdk_42_method_149_9 : decode jdk_42_method_149_code 9 = .ok (.ldc 7, 2) := by decide +kernel
theorem d_jdk_42_method_149_11 : decode jdk_42_method_149_code 11 = .ok (.getfield 9, 3) := by decide +kernel
theorem d_jdk_42_method_149_14 : decode jdk_42_method_149_code 14 = .ok (.putfield 9, 3) := by decide +kernel
theorem d_jdk_42_method_149_17 : decode jdk_42_method_149_code 17 = .ok (.aload_n 0, 1) := by decide +kernel
theorem d_jdk_42_method_149_18 : decode jdk_42_method_149_code 18 = .ok (.ldc 7, 2) := by decide +kernel
theorem d_jdk_42_method_149_20 : decode jdk_42_method_149_code 20 = .ok (.getfield 15, 3) := by decide +kernel
theorem d_jdk_42_method_149_23 : decode jdk_42_method_149_code 23 = .ok (.putfield 15, 3) := by decide +kernel
theorem d_jdk_42_method_149_26 : decode jdk_42_method_149_code 26 = .ok (.return_, 1) := by decide +kernel
theorem d_jdk_42_method_3_0 : decode jdk_42_method_3_code 0 = .ok (.aload_n 0, 1) := by decide +kernel
theorem d_jdk_42_method_3_1 : decode jdk_42_method_3_code 1 = .ok (.aload_n 1, 1) := by decide +kernel
theorem d_jdk_42_method_3_2 : decode jdk_42_method_3_code 2 = .ok (.iconst 0, 1) := by decide +kernel
theorem d_jdk_42_method_3_3 : decode jdk_42_method_3_code 3 = .ok (.aload_n 1, 1) := by decide +kernel
theorem d_jdk_42_method_3_4 : decode jdk_42_method_3_code 4 = .ok (.arraylength, 1) := by decide +kernel
theorem d_jdk_42_method_3_5 : decode jdk_42_method_3_code 5 = .ok (.aconst_null, 1) := by decide +kernel
theorem d_jdk_42_method_3_6 : decode jdk_42_method_3_code 6 = .ok (.invokespecial 27, 3) := by decide +kernel
theorem d_jdk_42_method_3_9 : decode jdk_42_method_3_code 9 = .ok (.return_, 1) := by decide +kernel
theorem d_prog_31_method_1_0 : decode prog_31_method_1_code 0 = .ok (.getstatic 16, 3) := by decide +kernel
theorem d_prog_31_method_1_3 : decode prog_31_method_1_code 3 = .ok (.invokevirtual 20, 3) := by decide +kernel
theorem d_prog_31_method_1_6 : decode prog_31_method_1_code 6 = .ok (.checkcast 21, 3) := by decide +kernel
theorem d_prog_31_method_1_9 : decode prog_31_method_1_code 9 = .ok (.areturn, 1) := by decide +kernel
theorem d_jdk_32_method_1_0 : decode jdk_32_method_1_code 0 = .ok (.getstatic 1, 3) := by decide +kernel
theorem d_jdk_32_method_1_3 : decode jdk_32_method_1_code 3 = .ok (.astore_n 0, 1) := by decide +kernel
theorem d_jdk_32_method_1_4 : decode jdk_32_method_1_code 4 = .ok (.aload_n 0, 1) := by decide +kernel
theorem d_jdk_32_method_1_5 : decode jdk_32_method_1_code 5 = .ok (.areturn, 1) := by decide +kernel
theorem d_jdk_31_method_10_0 : decode jdk_31_method_10_code 0 = .ok (.aload_n 0, 1) := by decide +kernel
theorem d_jdk_31_method_10_1 : decode jdk_31_method_10_code 1 = .ok (.ifnonnull 11, 3) := by decide +kernel
theorem d_jdk_31_method_10_12 : decode jdk_31_method_10_code 12 = .ok (.aload_n 0, 1) := by decide +kernel
theorem d_jdk_31_method_10_13 : decode jdk_31_method_10_code 13 = .ok (.areturn, 1) := by decide +kernel
theorem d_jdk_32_method_2_0 : decode jdk_32_method_2_code 0 = .ok (.aload_n 0, 1) := by decide +kernel
theorem d_jdk_32_method_2_1 : decode jdk_32_method_2_code 1 = .ok (.invokespecial 7, 3) := by decide +kernel
theorem d_jdk_32_method_2_4 : decode jdk_32_method_2_code 4 = .ok (.aload_n 0, 1) := by decide +kernel
theorem d_jdk_32_method_2_5 : decode jdk_32_method_2_code 5 = .ok (.aload_n 1, 1) := by decide +kernel
theorem d_jdk_32_method_2_6 : decode jdk_32_method_2_code 6 = .ok (.putfield 13, 3) := by decide +kernel
theorem d_jdk_32_method_2_9 : decode jdk_32_method_2_code 9 = .ok (.return_, 1) := by decide +kernel
theorem d_jdk_32_method_3_0 : decode jdk_32_method_3_code 0 = .ok (.new 2, 3) := by decide +kernel
theorem d_jdk_32_method_3_3 : decode jdk_32_method_3_code 3 = .ok (.dup, 1) := by decide +kernel
theorem d_jdk_32_method_3_4 : decode jdk_32_method_3_code 4 = .ok (.aload_n 0, 1) := by decide +kernel
theorem d_jdk_32_method_3_5 : decode jdk_32_method_3_code 5 = .ok (.invokestatic 17, 3) := by decide +kernel
theorem d_jdk_32_method_3_8 : decode jdk_32_method_3_code 8 = .ok (.invokespecial 23, 3) := by decide +kernel
theorem d_jdk_32_method_3_11 : decode jdk_32_method_3_code 11 = .ok (.areturn, 1) := by decide +kernel
theorem d_jdk_32_method_15_0 : decode jdk_32_method_15_code 0 = .ok (.aload_n 0, 1) := by decide +kernel
theorem d_jdk_32_method_15_1 : decode jdk_32_method_15_code 1 = .ok (.getfield 13, 3) := by decide +kernel
theorem d_jdk_32_method_15_4 : decode jdk_32_method_15_code 4 = .ok (.ifnull 10, 3) := by decide +kernel
theorem d_jdk_32_method_15_7 : decode jdk_32_method_15_code 7 = .ok (.aload_n 0, 1) := by decide +kernel
theorem d_jdk_32_method_15_8 : decode jdk_32_method_15_code 8 = .ok (.getfield 13, 3) := by decide +kernel
theorem d_jdk_32_method_15_11 : decode jdk_32_method_15_code 11 = .ok (.goto 4, 3) := by decide +kernel
theorem d_jdk_32_method_15_14 : decode jdk_32_method_15_code 14 = .ok (.aload_n 1, 1) := by decide +kernel
theorem d_jdk_32_method_15_15 : decode jdk_32_method_15_code 15 = .ok (.areturn, 1) := by decide +kernel
theorem d_jdk_42_method_66_0 : decode jdk_42_method_66_code 0 = .ok (.aload_n 0, 1) := by decide +kernel
theorem d_jdk_42_method_66_1 : decode jdk_42_method_66_code 1 = .ok (.aload_n 1, 1) := by decide +kernel
theorem d_jdk_42_method_66_2 : decode jdk_42_method_66_code 2 = .ok (.if_acmp .ne 5, 3) := by decide +kernel
theorem d_jdk_42_method_66_7 : decode jdk_42_method_66_code 7 = .ok (.aload_n 1, 1) := by decide +kernel
theorem d_jdk_42_method_66_8 : decode jdk_42_method_66_code 8 = .ok (.instanceof 10, 3) := by decide +kernel
theorem d_jdk_42_method_66_11 : decode jdk_42_method_66_code 11 = .ok (.ifCond .eq 43, 3) := by decide +kernel
theorem d_jdk_42_method_66_54 : decode jdk_42_method_66_code 54 = .ok (.iconst 0, 1) := by decide +kernel
theorem d_jdk_42_method_66_55 : decode jdk_42_method_66_code 55 = .ok (.ireturn, 1) := by decide +kernel
theorem d_prog_31_method_6_0 : decode prog_31_method_6_code 0 = .ok (.invokestatic 42, 3) := by decide +kernel
theorem d_prog_31_method_6_3 : decode prog_31_method_6_code 3 = .ok (.astore_n 1, 1) := by decide +kernel
theorem d_prog_31_method_6_4 : decode prog_31_method_6_code 4 = .ok (.invokestatic 48, 3) := by decide +kernel
theorem d_prog_31_method_6_7 : decode prog_31_method_6_code 7 = .ok (.astore_n 2, 1) := by decide +kernel
theorem d_prog_31_method_6_8 : decode prog_31_method_6_code 8 = .ok (.aload_n 2, 1) := by decide +kernel
theorem d_prog_31_method_6_9 : decode prog_31_method_6_code 9 = .ok (.arraylength, 1) := by decide +kernel
theorem d_prog_31_method_6_10 : decode prog_31_method_6_code 10 = .ok (.istore_n 3, 1) := by decide +kernel
theorem d_prog_31_method_6_11 : decode prog_31_method_6_code 11 = .ok (.iconst 0, 1) := by decide +kernel
theorem d_prog_31_method_6_12 : decode prog_31_method_6_code 12 = .ok (.istore 4, 2) := by decide +kernel
theorem d_prog_31_method_6_14 : decode prog_31_method_6_code 14 = .ok (.iload 4, 2) := by decide +kernel
theorem d_prog_31_method_6_16 : decode prog_31_method_6_code 16 = .ok (.iload_n 3, 1) := by decide +kernel
theorem d_prog_31_method_6_17 : decode prog_31_method_6_code 17 = .ok (.if_icmp .ge 33, 3) := by decide +kernel
theorem d_prog_31_method_6_20 : decode prog_31_method_6_code 20 = .ok (.aload_n 2, 1) := by decide +kernel
theorem d_prog_31_method_6_21 : decode prog_31_method_6_code 21 = .ok (.iload 4, 2) := by decide +kernel
theorem d_prog_31_method_6_23 : decode prog_31_method_6_code 23 = .ok (.aaload, 1) := by decide +kernel
theorem d_prog_31_method_6_24 : decode prog_31_method_6_code 24 = .ok (.astore 5, 2) := by decide +kernel
theorem d_prog_31_method_6_26 : decode prog_31_method_6_code 26 = .ok (.aload 5, 2) := by decide +kernel
theorem d_prog_31_method_6_28 : decode prog_31_method_6_code 28 = .ok (.getfield 35, 3) := by decide +kernel
theorem d_prog_31_method_6_31 : decode prog_31_method_6_code 31 = .ok (.aload_n 0, 1) := by decide +kernel
theorem d_prog_31_method_6_32 : decode prog_31_method_6_code 32 = .ok (.invokevirtual 52, 3) := by decide +kernel
theorem d_prog_31_method_6_35 : decode prog_31_method_6_code 35 = .ok (.ifCond .eq 9, 3) := by decide +kernel
theorem d_prog_31_method_6_38 : decode prog_31_method_6_code 38 = .ok (.aload 5, 2) := by decide +kernel
theorem d_prog_31_method_6_40 : decode prog_31_method_6_code 40 = .ok (.invokestatic 58, 3) := by decide +kernel
theorem d_prog_31_method_6_43 : decode prog_31_method_6_code 43 = .ok (.astore_n 1, 1) := by decide +kernel
theorem d_prog_31_method_6_44 : decode prog_31_method_6_code 44 = .ok (.iinc 4 1, 3) := by decide +kernel
theorem d_prog_31_method_6_47 : decode prog_31_method_6_code 47 = .ok (.goto (-33), 3) := by decide +kernel
theorem d_prog_31_method_6_50 : decode prog_31_method_6_code 50 = .ok (.aload_n 1, 1) := by decide +kernel
theorem d_prog_31_method_6_51 : decode prog_31_method_6_code 51 = .ok (.areturn, 1) := by decide +kernel
theorem d_method_3_0 : decode method_3_code 0 = .ok (.iload_n 1, 1) := by decide +kernel
theorem d_method_3_1 : decode method_3_code 1 = .ok (.aload_n 0, 1) := by decide +kernel
theorem d_method_3_2 : decode method_3_code 2 = .ok (.invokevirtual 17, 3) := by decide +kernel
theorem d_method_3_5 : decode method_3_code 5 = .ok (.if_icmp .ge 14, 3) := by decide +kernel
theorem d_method_3_8 : decode method_3_code 8 = .ok (.iload_n 1, 1) := by decide +kernel
theorem d_method_3_9 : decode method_3_code 9 = .ok (.iload_n 2, 1) := by decide +kernel
theorem d_method_3_10 : decode method_3_code 10 = .ok (.if_icmp .eq 9, 3) := by decide +kernel
theorem d_method_3_13 : decode method_3_code 13 = .ok (.aload_n 0, 1) := by decide +kernel
theorem d_method_3_14 : decode method_3_code 14 = .ok (.iload_n 1, 1) := by decide +kernel
theorem d_method_3_15 : decode method_3_code 15 = .ok (.invokevirtual 59, 3) := by decide +kernel
theorem d_method_3_18 : decode method_3_code 18 = .ok (.ireturn, 1) := by decide +kernel
theorem d_method_3_19 : decode method_3_code 19 = .ok (.iload_n 1, 1) := by decide +kernel
theorem d_method_3_20 : decode method_3_code 20 = .ok (.bipush 8, 2) := by decide +kernel
theorem d_method_3_22 : decode method_3_code 22 = .ok (.if_icmp .ge 14, 3) := by decide +kernel
theorem d_method_3_25 : decode method_3_code 25 = .ok (.lload_n 3, 1) := by decide +kernel
theorem d_method_3_26 : decode method_3_code 26 = .ok (.bipush 8, 2) := by decide +kernel
theorem d_method_3_28 : decode method_3_code 28 = .ok (.iload_n 1, 1) := by decide +kernel
theorem d_method_3_29 : decode method_3_code 29 = .ok (.imul, 1) := by decide +kernel
theorem d_method_3_30 : decode method_3_code 30 = .ok (.lushr, 1) := by decide +kernel
theorem d_method_3_31 : decode method_3_code 31 = .ok (.lstore 7, 2) := by decide +kernel
theorem d_method_3_33 : decode method_3_code 33 = .ok (.goto 15, 3) := by decide +kernel
theorem d_method_3_36 : decode method_3_code 36 = .ok (.lload 5, 2) := by decide +kernel
theorem d_method_3_38 : decode method_3_code 38 = .ok (.bipush 8, 2) := by decide +kernel
theorem d_method_3_40 : decode method_3_code 40 = .ok (.iload_n 1, 1) := by decide +kernel
theorem d_method_3_41 : decode method_3_code 41 = .ok (.bipush 8, 2) := by decide +kernel
theorem d_method_3_43 : decode method_3_code 43 = .ok (.isub, 1) := by decide +kernel
theorem d_method_3_44 : decode method_3_code 44 = .ok (.imul, 1) := by decide +kernel
theorem d_method_3_45 : decode method_3_code 45 = .ok (.lushr, 1) := by decide +kernel
theorem d_method_3_46 : decode method_3_code 46 = .ok (.lstore 7, 2) := by decide +kernel
theorem d_method_3_48 : decode method_3_code 48 = .ok (.lload 7, 2) := by decide +kernel
theorem d_method_3_50 : decode method_3_code 50 = .ok (.ldc2_w 63, 3) := by decide +kernel
theorem d_method_3_53 : decode method_3_code 53 = .ok (.land, 1) := by decide +kernel
theorem d_method_3_54 : decode method_3_code 54 = .ok (.l2i, 1) := by decide +kernel
theorem d_method_3_55 : decode method_3_code 55 = .ok (.i2c, 1) := by decide +kernel
theorem d_method_3_56 : decode method_3_code 56 = .ok (.ireturn, 1) := by decide +kernel
theorem d_method_4_0 : decode method_4_code 0 = .ok (.iload_n 0, 1) := by decide +kernel
theorem d_method_4_1 : decode method_4_code 1 = .ok (.ifCond .ne 11, 3) := by decide +kernel
theorem d_method_4_4 : decode method_4_code 4 = .ok (.iconst 0, 1) := by decide +kernel
theorem d_method_4_5 : decode method_4_code 5 = .ok (.newarray .char, 2) := by decide +kernel
theorem d_method_4_7 : decode method_4_code 7 = .ok (.astore 7, 2) := by decide +kernel
theorem d_method_4_9 : decode method_4_code 9 = .ok (.goto 149, 3) := by decide +kernel
theorem d_method_4_12 : decode method_4_code 12 = .ok (.iload_n 0, 1) := by decide +kernel
theorem d_method_4_13 : decode method_4_code 13 = .ok (.iconst 1, 1) := by decide +kernel
theorem d_method_4_14 : decode method_4_code 14 = .ok (.if_icmp .ne 11, 3) := by decide +kernel
theorem d_method_4_17 : decode method_4_code 17 = .ok (.iconst 1, 1) := by decide +kernel
theorem d_method_4_18 : decode method_4_code 18 = .ok (.newarray .char, 2) := by decide +kernel
theorem d_method_4_20 : decode method_4_code 20 = .ok (.astore 7, 2) := by decide +kernel
theorem d_method_4_22 : decode method_4_code 22 = .ok (.goto 136, 3) := by decide +kernel
theorem d_method_4_25 : decode method_4_code 25 = .ok (.iload_n 0, 1) := by decide +kernel
theorem d_method_4_26 : decode method_4_code 26 = .ok (.iconst 2, 1) := by decide +kernel
theorem d_method_4_27 : decode method_4_code 27 = .ok (.if_icmp .ne 11, 3) := by decide +kernel
theorem d_method_4_30 : decode method_4_code 30 = .ok (.iconst 2, 1) := by decide +kernel
theorem d_method_4_31 : decode method_4_code 31 = .ok (.newarray .char, 2) := by decide +kernel
theorem d_method_4_33 : decode method_4_code 33 = .ok (.astore 7, 2) := by decide +kernel
theorem d_method_4_35 : decode method_4_code 35 = .ok (.goto 123, 3) := by decide +kernel
theorem d_method_4_38 : decode method_4_code 38 = .ok (.iload_n 0, 1) := by decide +kernel
theorem d_method_4_39 : decode method_4_code 39 = .ok (.iconst 3, 1) := by decide +kernel
theorem d_method_4_40 : decode method_4_code 40 = .ok (.if_icmp .ne 11, 3) := by decide +kernel
theorem d_method_4_43 : decode method_4_code 43 = .ok (.iconst 3, 1) := by decide +kernel
theorem d_method_4_44 : decode method_4_code 44 = .ok (.newarray .char, 2) := by decide +kernel
theorem d_method_4_46 : decode method_4_code 46 = .ok (.astore 7, 2) := by decide +kernel
theorem d_method_4_48 : decode method_4_code 48 = .ok (.goto 110, 3) := by decide +kernel
theorem d_method_4_51 : decode method_4_code 51 = .ok (.iload_n 0, 1) := by decide +kernel
theorem d_method_4_52 : decode method_4_code 52 = .ok (.iconst 4, 1) := by decide +kernel
theorem d_method_4_53 : decode method_4_code 53 = .ok (.if_icmp .ne 11, 3) := by decide +kernel
theorem d_method_4_56 : decode method_4_code 56 = .ok (.iconst 4, 1) := by decide +kernel
theorem d_method_4_57 : decode method_4_code 57 = .ok (.newarray .char, 2) := by decide +kernel
theorem d_method_4_59 : decode method_4_code 59 = .ok (.astore 7, 2) := by decide +kernel
theorem d_method_4_61 : decode method_4_code 61 = .ok (.goto 97, 3) := by decide +kernel
theorem d_method_4_64 : decode method_4_code 64 = .ok (.iload_n 0, 1) := by decide +kernel
theorem d_method_4_65 : decode method_4_code 65 = .ok (.iconst 5, 1) := by decide +kernel
theorem d_method_4_66 : decode method_4_code 66 = .ok (.if_icmp .ne 11, 3) := by decide +kernel
theorem d_method_4_69 : decode method_4_code 69 = .ok (.iconst 5, 1) := by decide +kernel
theorem d_method_4_70 : decode method_4_code 70 = .ok (.newarray .char, 2) := by decide +kernel
theorem d_method_4_72 : decode method_4_code 72 = .ok (.astore 7, 2) := by decide +kernel
theorem d_method_4_74 : decode method_4_code 74 = .ok (.goto 84, 3) := by decide +kernel
theorem d_method_4_77 : decode method_4_code 77 = .ok (.iload_n 0, 1) := by decide +kernel
theorem d_method_4_78 : decode method_4_code 78 = .ok (.bipush 6, 2) := by decide +kernel
theorem d_method_4_80 : decode method_4_code 80 = .ok (.if_icmp .ne 12, 3) := by decide +kernel
theorem d_method_4_83 : decode method_4_code 83 = .ok (.bipush 6, 2) := by decide +kernel
theorem d_method_4_85 : decode method_4_code 85 = .ok (.newarray .char, 2) := by decide +kernel
theorem d_method_4_87 : decode method_4_code 87 = .ok (.astore 7, 2) := by decide +kernel
theorem d_method_4_89 : decode method_4_code 89 = .ok (.goto 69, 3) := by decide +kernel
theorem d_method_4_92 : decode method_4_code 92 = .ok (.iload_n 0, 1) := by decide +kernel
theorem d_method_4_93 : decode method_4_code 93 = .ok (.bipush 7, 2) := by decide +kernel
theorem d_method_4_95 : decode method_4_code 95 = .ok (.if_icmp .ne 12, 3) := by decide +kernel
theorem d_method_4_98 : decode method_4_code 98 = .ok (.bipush 7, 2) := by decide +kernel
theorem d_method_4_100 : decode method_4_code 100 = .ok (.newarray .char, 2) := by decide +kernel
theorem d_method_4_102 : decode method_4_code 102 = .ok (.astore 7, 2) := by decide +kernel
theorem d_method_4_104 : decode method_4_code 104 = .ok (.goto 54, 3) := by decide +kernel
theorem d_method_4_107 : decode method_4_code 107 = .ok (.iload_n 0, 1) := by decide +kernel
theorem d_method_4_108 : decode method_4_code 108 = .ok (.bipush 8, 2) := by decide +kernel
theorem d_method_4_110 : decode method_4_code 110 = .ok (.if_icmp .ne 12, 3) := by decide +kernel
theorem d_method_4_113 : decode method_4_code 113 = .ok (.bipush 8, 2) := by decide +kernel
theorem d_method_4_115 : decode method_4_code 115 = .ok (.newarray .char, 2) := by decide +kernel
theorem d_method_4_117 : decode method_4_code 117 = .ok (.astore 7, 2) := by decide +kernel
theorem d_method_4_119 : decode method_4_code 119 = .ok (.goto 39, 3) := by decide +kernel
theorem d_method_4_122 : decode method_4_code 122 = .ok (.iload_n 0, 1) := by decide +kernel
theorem d_method_4_123 : decode method_4_code 123 = .ok (.bipush 9, 2) := by decide +kernel
theorem d_method_4_125 : decode method_4_code 125 = .ok (.if_icmp .ne 12, 3) := by decide +kernel
theorem d_method_4_128 : decode method_4_code 128 = .ok (.bipush 9, 2) := by decide +kernel
theorem d_method_4_130 : decode method_4_code 130 = .ok (.newarray .char, 2) := by decide +kernel
theorem d_method_4_132 : decode method_4_code 132 = .ok (.astore 7, 2) := by decide +kernel
theorem d_method_4_134 : decode method_4_code 134 = .ok (.goto 24, 3) := by decide +kernel
theorem d_method_4_137 : decode method_4_code 137 = .ok (.iload_n 0, 1) := by decide +kernel
theorem d_method_4_138 : decode method_4_code 138 = .ok (.bipush 10, 2) := by decide +kernel
theorem d_method_4_140 : decode method_4_code 140 = .ok (.if_icmp .ne 12, 3) := by decide +kernel
theorem d_method_4_143 : decode method_4_code 143 = .ok (.bipush 10, 2) := by decide +kernel
theorem d_method_4_145 : decode method_4_code 145 = .ok (.newarray .char, 2) := by decide +kernel
theorem d_method_4_147 : decode method_4_code 147 = .ok (.astore 7, 2) := by decide +kernel
theorem d_method_4_149 : decode method_4_code 149 = .ok (.goto 9, 3) := by decide +kernel
theorem d_method_4_152 : decode method_4_code 152 = .ok (.bipush 11, 2) := by decide +kernel
theorem d_method_4_154 : decode method_4_code 154 = .ok (.newarray .char, 2) := by decide +kernel
theorem d_method_4_156 : decode method_4_code 156 = .ok (.astore 7, 2) := by decide +kernel
theorem d_method_4_158 : decode method_4_code 158 = .ok (.iload_n 0, 1) := by decide +kernel
theorem d_method_4_159 : decode method_4_code 159 = .ok (.ifCond .le 16, 3) := by decide +kernel
theorem d_method_4_162 : decode method_4_code 162 = .ok (.aload 7, 2) := by decide +kernel
theorem d_method_4_164 : decode method_4_code 164 = .ok (.iconst 0, 1) := by decide +kernel
theorem d_method_4_165 : decode method_4_code 165 = .ok (.aload_n 1, 1) := by decide +kernel
theorem d_method_4_166 : decode method_4_code 166 = .ok (.iconst 0, 1) := by decide +kernel
theorem d_method_4_167 : decode method_4_code 167 = .ok (.iload_n 2, 1) := by decide +kernel
theorem d_method_4_168 : decode method_4_code 168 = .ok (.lload_n 3, 1) := by decide +kernel
theorem d_method_4_169 : decode method_4_code 169 = .ok (.lload 5, 2) := by decide +kernel
theorem d_method_4_171 : decode method_4_code 171 = .ok (.invokestatic 65, 3) := by decide +kernel
theorem d_method_4_174 : decode method_4_code 174 = .ok (.castore, 1) := by decide +kernel
theorem d_method_4_175 : decode method_4_code 175 = .ok (.iload_n 0, 1) := by decide +kernel
theorem d_method_4_176 : decode method_4_code 176 = .ok (.iconst 1, 1) := by decide +kernel
theorem d_method_4_177 : decode method_4_code 177 = .ok (.if_icmp .le 16, 3) := by decide +kernel
theorem d_method_4_180 : decode method_4_code 180 = .ok (.aload 7, 2) := by decide +kernel
theorem d_method_4_182 : decode method_4_code 182 = .ok (.iconst 1, 1) := by decide +kernel
theorem d_method_4_183 : decode method_4_code 183 = .ok (.aload_n 1, 1) := by decide +kernel
theorem d_method_4_184 : decode method_4_code 184 = .ok (.iconst 1, 1) := by decide +kernel
theorem d_method_4_185 : decode method_4_code 185 = .ok (.iload_n 2, 1) := by decide +kernel
theorem d_method_4_186 : decode method_4_code 186 = .ok (.lload_n 3, 1) := by decide +kernel
theorem d_method_4_187 : decode method_4_code 187 = .ok (.lload 5, 2) := by decide +kernel
theorem d_method_4_189 : decode method_4_code 189 = .ok (.invokestatic 65, 3) := by decide +kernel
theorem d_method_4_192 : decode method_4_code 192 = .ok (.castore, 1) := by decide +kernel
theorem d_method_4_193 : decode method_4_code 193 = .ok (.iload_n 0, 1) := by decide +kernel
theorem d_method_4_194 : decode method_4_code 194 = .ok (.iconst 2, 1) := by decide +kernel
theorem d_method_4_195 : decode method_4_code 195 = .ok (.if_icmp .le 16, 3) := by decide +kernel
theorem d_method_4_198 : decode method_4_code 198 = .ok (.aload 7, 2) := by decide +kernel
theorem d_method_4_200 : decode method_4_code 200 = .ok (.iconst 2, 1) := by decide +kernel
theorem d_method_4_201 : decode method_4_code 201 = .ok (.aload_n 1, 1) := by decide +kernel
theorem d_method_4_202 : decode method_4_code 202 = .ok (.iconst 2, 1) := by decide +kernel
theorem d_method_4_203 : decode method_4_code 203 = .ok (.iload_n 2, 1) := by decide +kernel
theorem d_method_4_204 : decode method_4_code 204 = .ok (.lload_n 3, 1) := by decide +kernel
theorem d_method_4_205 : decode method_4_code 205 = .ok (.lload 5, 2) := by decide +kernel
theorem d_method_4_207 : decode method_4_code 207 = .ok (.invokestatic 65, 3) := by decide +kernel
theorem d_method_4_210 : decode method_4_code 210 = .ok (.castore, 1) := by decide +kernel
theorem d_method_4_211 : decode method_4_code 211 = .ok (.iload_n 0, 1) := by decide +kernel
theorem d_method_4_212 : decode method_4_code 212 = .ok (.iconst 3, 1) := by decide +kernel
theorem d_method_4_213 : decode method_4_code 213 = .ok (.if_icmp .le 16, 3) := by decide +kernel
theorem d_method_4_216 : decode method_4_code 216 = .ok (.aload 7, 2) := by decide +kernel
theorem d_method_4_218 : decode method_4_code 218 = .ok (.iconst 3, 1) := by decide +kernel
theorem d_method_4_219 : decode method_4_code 219 = .ok (.aload_n 1, 1) := by decide +kernel
theorem d_method_4_220 : decode method_4_code 220 = .ok (.iconst 3, 1) := by decide +kernel
theorem d_method_4_221 : decode method_4_code 221 = .ok (.iload_n 2, 1) := by decide +kernel
theorem d_method_4_222 : decode method_4_code 222 = .ok (.lload_n 3, 1) := by decide +kernel
theorem d_method_4_223 : decode method_4_code 223 = .ok (.lload 5, 2) := by decide +kernel
theorem d_method_4_225 : decode method_4_code 225 = .ok (.invokestatic 65, 3) := by decide +kernel
theorem d_method_4_228 : decode method_4_code 228 = .ok (.castore, 1) := by decide +kernel
theorem d_method_4_229 : decode method_4_code 229 = .ok (.iload_n 0, 1) := by decide +kernel
theorem d_method_4_230 : decode method_4_code 230 = .ok (.iconst 4, 1) := by decide +kernel
theorem d_method_4_231 : decode method_4_code 231 = .ok (.if_icmp .le 16, 3) := by decide +kernel
theorem d_method_4_234 : decode method_4_code 234 = .ok (.aload 7, 2) := by decide +kernel
theorem d_method_4_236 : decode method_4_code 236 = .ok (.iconst 4, 1) := by decide +kernel
theorem d_method_4_237 : decode method_4_code 237 = .ok (.aload_n 1, 1) := by decide +kernel
theorem d_method_4_238 : decode method_4_code 238 = .ok (.iconst 4, 1) := by decide +kernel
theorem d_method_4_239 : decode method_4_code 239 = .ok (.iload_n 2, 1) := by decide +kernel
theorem d_method_4_240 : decode method_4_code 240 = .ok (.lload_n 3, 1) := by decide +kernel
theorem d_method_4_241 : decode method_4_code 241 = .ok (.lload 5, 2) := by decide +kernel
theorem d_method_4_243 : decode method_4_code 243 = .ok (.invokestatic 65, 3) := by decide +kernel
theorem d_method_4_246 : decode method_4_code 246 = .ok (.castore, 1) := by decide +kernel
theorem d_method_4_247 : decode method_4_code 247 = .ok (.iload_n 0, 1) := by decide +kernel
theorem d_method_4_248 : decode method_4_code 248 = .ok (.iconst 5, 1) := by decide +kernel
theorem d_method_4_249 : decode method_4_code 249 = .ok (.if_icmp .le 16, 3) := by decide +kernel
theorem d_method_4_252 : decode method_4_code 252 = .ok (.aload 7, 2) := by decide +kernel
theorem d_method_4_254 : decode method_4_code 254 = .ok (.iconst 5, 1) := by decide +kernel
theorem d_method_4_255 : decode method_4_code 255 = .ok (.aload_n 1, 1) := by decide +kernel
theorem d_method_4_256 : decode method_4_code 256 = .ok (.iconst 5, 1) := by decide +kernel
theorem d_method_4_257 : decode method_4_code 257 = .ok (.iload_n 2, 1) := by decide +kernel
theorem d_method_4_258 : decode method_4_code 258 = .ok (.lload_n 3, 1) := by decide +kernel
theorem d_method_4_259 : decode method_4_code 259 = .ok (.lload 5, 2) := by decide +kernel
theorem d_method_4_261 : decode method_4_code 261 = .ok (.invokestatic 65, 3) := by decide +kernel
theorem d_method_4_264 : decode method_4_code 264 = .ok (.castore, 1) := by decide +kernel
theorem d_method_4_265 : decode method_4_code 265 = .ok (.iload_n 0, 1) := by decide +kernel
theorem d_method_4_266 : decode method_4_code 266 = .ok (.bipush 6, 2) := by decide +kernel
theorem d_method_4_268 : decode method_4_code 268 = .ok (.if_icmp .le 18, 3) := by decide +kernel
theorem d_method_4_271 : decode method_4_code 271 = .ok (.aload 7, 2) := by decide +kernel
theorem d_method_4_273 : decode method_4_code 273 = .ok (.bipush 6, 2) := by decide +kernel
theorem d_method_4_275 : decode method_4_code 275 = .ok (.aload_n 1, 1) := by decide +kernel
theorem d_method_4_276 : decode method_4_code 276 = .ok (.bipush 6, 2) := by decide +kernel
theorem d_method_4_278 : decode method_4_code 278 = .ok (.iload_n 2, 1) := by decide +kernel
theorem d_method_4_279 : decode method_4_code 279 = .ok (.lload_n 3, 1) := by decide +kernel
theorem d_method_4_280 : decode method_4_code 280 = .ok (.lload 5, 2) := by decide +kernel
theorem d_method_4_282 : decode method_4_code 282 = .ok (.invokestatic 65, 3) := by decide +kernel
theorem d_method_4_285 : decode method_4_code 285 = .ok (.castore, 1) := by decide +kernel
theorem d_method_4_286 : decode method_4_code 286 = .ok (.iload_n 0, 1) := by decide +kernel
theorem d_method_4_287 : decode method_4_code 287 = .ok (.bipush 7, 2) := by decide +kernel
theorem d_method_4_289 : decode method_4_code 289 = .ok (.if_icmp .le 18, 3) := by decide +kernel
theorem d_method_4_292 : decode method_4_code 292 = .ok (.aload 7, 2) := by decide +kernel
theorem d_method_4_294 : decode method_4_code 294 = .ok (.bipush 7, 2) := by decide +kernel
theorem d_method_4_296 : decode method_4_code 296 = .ok (.aload_n 1, 1) := by decide +kernel
theorem d_method_4_297 : decode method_4_code 297 = .ok (.bipush 7, 2) := by decide +kernel
theorem d_method_4_299 : decode method_4_code 299 = .ok (.iload_n 2, 1) := by decide +kernel
theorem d_method_4_300 : decode method_4_code 300 = .ok (.lload_n 3, 1) := by decide +kernel
theorem d_method_4_301 : decode method_4_code 301 = .ok (.lload 5, 2) := by decide +kernel
theorem d_method_4_303 : decode method_4_code 303 = .ok (.invokestatic 65, 3) := by decide +kernel
theorem d_method_4_306 : decode method_4_code 306 = .ok (.castore, 1) := by decide +kernel
theorem d_method_4_307 : decode method_4_code 307 = .ok (.iload_n 0, 1) := by decide +kernel
theorem d_method_4_308 : decode method_4_code 308 = .ok (.bipush 8, 2) := by decide +kernel
theorem d_method_4_310 : decode method_4_code 310 = .ok (.if_icmp .le 18, 3) := by decide +kernel
theorem d_method_4_313 : decode method_4_code 313 = .ok (.aload 7, 2) := by decide +kernel
theorem d_method_4_315 : decode method_4_code 315 = .ok (.bipush 8, 2) := by decide +kernel
theorem d_method_4_317 : decode method_4_code 317 = .ok (.aload_n 1, 1) := by decide +kernel
theorem d_method_4_318 : decode method_4_code 318 = .ok (.bipush 8, 2) := by decide +kernel
theorem d_method_4_320 : decode method_4_code 320 = .ok (.iload_n 2, 1) := by decide +kernel
theorem d_method_4_321 : decode method_4_code 321 = .ok (.lload_n 3, 1) := by decide +kernel
theorem d_method_4_322 : decode method_4_code 322 = .ok (.lload 5, 2) := by decide +kernel
theorem d_method_4_324 : decode method_4_code 324 = .ok (.invokestatic 65, 3) := by decide +kernel
theorem d_method_4_327 : decode method_4_code 327 = .ok (.castore, 1) := by decide +kernel
theorem d_method_4_328 : decode method_4_code 328 = .ok (.iload_n 0, 1) := by decide +kernel
theorem d_method_4_329 : decode method_4_code 329 = .ok (.bipush 9, 2) := by decide +kernel
theorem d_method_4_331 : decode method_4_code 331 = .ok (.if_icmp .le 18, 3) := by decide +kernel
theorem d_method_4_334 : decode method_4_code 334 = .ok (.aload 7, 2) := by decide +kernel
theorem d_method_4_336 : decode method_4_code 336 = .ok (.bipush 9, 2) := by decide +kernel
theorem d_method_4_338 : decode method_4_code 338 = .ok (.aload_n 1, 1) := by decide +kernel
theorem d_method_4_339 : decode method_4_code 339 = .ok (.bipush 9, 2) := by decide +kernel
theorem d_method_4_341 : decode method_4_code 341 = .ok (.iload_n 2, 1) := by decide +kernel
theorem d_method_4_342 : decode method_4_code 342 = .ok (.lload_n 3, 1) := by decide +kernel
theorem d_method_4_343 : decode method_4_code 343 = .ok (.lload 5, 2) := by decide +kernel
theorem d_method_4_345 : decode method_4_code 345 = .ok (.invokestatic 65, 3) := by decide +kernel
theorem d_method_4_348 : decode method_4_code 348 = .ok (.castore, 1) := by decide +kernel
theorem d_method_4_349 : decode method_4_code 349 = .ok (.iload_n 0, 1) := by decide +kernel
theorem d_method_4_350 : decode method_4_code 350 = .ok (.bipush 10, 2) := by decide +kernel
theorem d_method_4_352 : decode method_4_code 352 = .ok (.if_icmp .le 18, 3) := by decide +kernel
theorem d_method_4_355 : decode method_4_code 355 = .ok (.aload 7, 2) := by decide +kernel
theorem d_method_4_357 : decode method_4_code 357 = .ok (.bipush 10, 2) := by decide +kernel
theorem d_method_4_359 : decode method_4_code 359 = .ok (.aload_n 1, 1) := by decide +kernel
theorem d_method_4_360 : decode method_4_code 360 = .ok (.bipush 10, 2) := by decide +kernel
theorem d_method_4_362 : decode method_4_code 362 = .ok (.iload_n 2, 1) := by decide +kernel
theorem d_method_4_363 : decode method_4_code 363 = .ok (.lload_n 3, 1) := by decide +kernel
theorem d_method_4_364 : decode method_4_code 364 = .ok (.lload 5, 2) := by decide +kernel
theorem d_method_4_366 : decode method_4_code 366 = .ok (.invokestatic 65, 3) := by decide +kernel
theorem d_method_4_369 : decode method_4_code 369 = .ok (.castore, 1) := by decide +kernel
theorem d_method_4_370 : decode method_4_code 370 = .ok (.new 18, 3) := by decide +kernel
theorem d_method_4_373 : decode method_4_code 373 = .ok (.dup, 1) := by decide +kernel
theorem d_method_4_374 : decode method_4_code 374 = .ok (.aload 7, 2) := by decide +kernel
theorem d_method_4_376 : decode method_4_code 376 = .ok (.invokespecial 69, 3) := by decide +kernel
theorem d_method_4_379 : decode method_4_code 379 = .ok (.areturn, 1) := by decide +kernel
theorem pd_0 : parseMethodDescriptor "([CIILjava/lang/Void;)V" = some ⟨[(.array .char), .int, .int, (.object "java/lang/Void")], none⟩ := by decide +kernel
theorem pd_1 : parseMethodDescriptor "(Ljava/lang/Object;)Ljava/lang/Object;" = some ⟨[(.object "java/lang/Object")], some (.object "java/lang/Object")⟩ := by decide +kernel
theorem pd_2 : parseMethodDescriptor "(Ljava/lang/Object;)V" = some ⟨[(.object "java/lang/Object")], none⟩ := by decide +kernel
theorem pd_3 : parseMethodDescriptor "()Ljava/util/Optional;" = some ⟨[], some (.object "java/util/Optional")⟩ := by decide +kernel
theorem pd_4 : parseMethodDescriptor "()[Lcom/example/contesta/contesta/rank/Model;" = some ⟨[], some (.array (.object "com/example/contesta/contesta/rank/Model"))⟩ := by decide +kernel
theorem pd_5 : parseMethodDescriptor "(Ljava/lang/Object;)Z" = some ⟨[(.object "java/lang/Object")], some .boolean⟩ := by decide +kernel
theorem pd_6 : parseMethodDescriptor "(Ljava/lang/Object;)Ljava/util/Optional;" = some ⟨[(.object "java/lang/Object")], some (.object "java/util/Optional")⟩ := by decide +kernel
theorem pd_7 : parseMethodDescriptor "()I" = some ⟨[], some .int⟩ := by decide +kernel
theorem pd_8 : parseMethodDescriptor "(I)C" = some ⟨[.int], some .char⟩ := by decide +kernel
theorem pd_9 : parseMethodDescriptor "([C)V" = some ⟨[(.array .char)], none⟩ := by decide +kernel
theorem pd_10 : parseMethodDescriptor "(Ljava/lang/String;IIJJ)C" = some ⟨[(.object "java/lang/String"), .int, .int, .long, .long], some .char⟩ := by decide +kernel
theorem pd_11 : parseMethodDescriptor "(Ljava/lang/String;)Ljava/util/Optional;" = some ⟨[(.object "java/lang/String")], some (.object "java/util/Optional")⟩ := by decide +kernel
theorem pd_12 : parseMethodDescriptor "(ILjava/lang/String;IJJ)Ljava/lang/String;" = some ⟨[.int, (.object "java/lang/String"), .int, .long, .long], some (.object "java/lang/String")⟩ := by decide +kernel
set_option maxRecDepth 65536 in
set_option maxHeartbeats 40000000 in
theorem rm_str4e (l : Launch) (Z : State) (a0 : Array Value) (hw : ∀ d ∈ tables_1, d.before a0 Z = true) (hEL : EW Z a0 consts_1) (n0 : Nat) (x b : Addr) (h : Heap) (Ex : Exa Z h x "java/lang/String") (Fv : Fld Z h x "java/lang/String" "value" "[B" .null) (Fc : Fld Z h x "java/lang/String" "coder" "B" (.int (0 : Int32)))  :
    Met l false Z consts_1 n0 (⟨"java/lang/String", "<init>", "([CIILjava/lang/Void;)V"⟩ : MethodName) jdk_42_method_149_code 6 none ({ frames := 1, cells := 4, slots := 8, locals := 12 } : Room) [] #[(.ref x), (.ref b), (.int (0 : Int32)), (.int (0 : Int32)), .null] [x] h (fun v h' => v = none ∧ Keep h h' [x] ∧ Str Z h' x []) := by
  refine Met.of_body (a0 := a0) (L0 := #[.val (.ref x), .val (.ref b), .val (.int (0 : Int32)), .val (.int (0 : Int32)), .val .null, .unset]) (plainFor_of_name (by first | (simp [plainName, overriddenIn]; done) | decide +kernel)) (fun m => by first | rfl | (simp [entryFrame, mkF, argsToLocals, Value.category]; done)) hw hEL (by decide) ?_
  have K : Keep h h [x] := Keep.refl _ _
  refine aloadN (pc' := 1) d_jdk_42_method_149_0 rfl rfl rfl ?_
  refine initObj (i := 60) (i2 := 61) (i3 := 62) (Wd := 0) (pc' := 4) d_jdk_42_method_149_1 rfl rfl rfl rfl (by decide) (Nat.le_of_ble_eq_true rfl) (by decide) rfl ?_
  refine iloadN (pc' := 5) d_jdk_42_method_149_4 rfl rfl ?_
  refine ifF (pc' := 8) d_jdk_42_method_149_5 (rfl : (0 : Int32) = (0 : Int32)) rfl ?_
  refine aloadN (pc' := 9) d_jdk_42_method_149_8 rfl rfl rfl ?_
  refine ldcStr (i := 139) (n := 0) (vs := []) (z := (0 : Int32)) (pc' := 11) d_jdk_42_method_149_9 rfl (by decide +kernel) (by decide) rfl ⟨by simp, by simp⟩ (by decide) rfl (by simp) (by decide) (by decide) (by decide) rfl fun h1 sa1 sb1 sk1 SE1 SA1 SC1 SV1 SR1 SN1 => ?_
  replace K := K.ext SE1
  replace Ex := Ex.ext SE1
  replace Fv := Fv.ext SE1
  replace Fc := Fc.ext SE1
  refine at' (ce' := 2) (sl' := 4) (pc' := 11) (L' := #[.val (.ref x), .val (.ref b), .val (.int (0 : Int32)), .val (.int (0 : Int32)), .val .null, .unset]) (S' := [(.ref sa1), (.ref x)]) rfl rfl rfl rfl rfl ?_
  refine getfield (i := 14) (pc' := 14) d_jdk_42_method_149_11 rfl SV1 rfl ?_
  refine putfield (i := 14) (i2 := 4) (i3 := 2) (pc' := 17) (v' := (.ref sb1)) (ty := (.array .byte)) d_jdk_42_method_149_14 rfl (Or.inr ⟨rfl, rfl, rfl⟩) rfl Fv Ex (by decide) rfl rfl (by simp) rfl fun h1 W2 => ?_
  replace K := K.wr W2 (Or.inl (by simp))
  replace Ex := Ex.wr W2
  replace Fv := Fv.same W2
  replace Fc := Fc.other W2 (Or.inr (slot_ne (Or.inr (hw _ (List.mem_of_getElem? (i := 5) rfl))) (Or.inr (hw _ (List.mem_of_getElem? (i := 4) rfl))) (by decide) (t := .byte) (t' := (.array .byte)) (by decide) (by decide)))
  replace SA1 := SA1.wr W2
  replace SC1 := SC1.other W2 (Or.inl (Ne.symm (SN1 x (by simp)).1))
  replace SV1 := SV1.other W2 (Or.inl (Ne.symm (SN1 x (by simp)).1))
  replace SR1 := SR1.other W2 (Ne.symm (SN1 x (by simp)).2)
  refine aloadN (pc' := 18) d_jdk_42_method_149_17 rfl rfl rfl ?_
  refine ldcStr (i := 139) (n := 0) (vs := []) (z := (0 : Int32)) (pc' := 20) d_jdk_42_method_149_18 rfl (by decide +kernel) (by decide) rfl ⟨by simp, by simp⟩ (by decide) rfl (by simp) (by decide) (by decide) (by decide) rfl fun h2 sa2 sb2 sk2 SE2 SA2 SC2 SV2 SR2 SN2 => ?_
  replace K := K.ext SE2
  replace Ex := Ex.ext SE2
  replace Fv := Fv.ext SE2
  replace Fc := Fc.ext SE2
  replace SR1 := SR1.ext SE2
  refine at' (ce' := 4) (sl' := 8) (pc' := 20) (L' := #[.val (.ref x), .val (.ref b), .val (.int (0 : Int32)), .val (.int (0 : Int32)), .val .null, .unset]) (S' := [(.ref sa2), (.ref x)]) rfl rfl rfl rfl rfl ?_
  refine getfield (i := 21) (pc' := 23) d_jdk_42_method_149_20 rfl SC2 rfl ?_
  refine putfield (i := 21) (i2 := 5) (i3 := 2) (pc' := 26) (v' := (.int (0 : Int32))) (ty := .byte) d_jdk_42_method_149_23 rfl (Or.inr ⟨rfl, rfl, rfl⟩) rfl Fc Ex (by decide) (by decide) (by decide) (by simp) rfl fun h3 W4 => ?_
  replace K := K.wr W4 (Or.inl (by simp))
  replace Ex := Ex.wr W4
  replace Fv := Fv.other W4 (Or.inr (slot_ne (Or.inr (hw _ (List.mem_of_getElem? (i := 4) rfl))) (Or.inr (hw _ (List.mem_of_getElem? (i := 5) rfl))) (by decide) (t := (.array .byte)) (t' := .byte) (by decide) (by decide)))
  replace Fc := Fc.same W4
  replace SR1 := SR1.other W4 (Ne.symm (SN1 x (by simp)).2)
  replace SA2 := SA2.wr W4
  replace SC2 := SC2.other W4 (Or.inl (Ne.symm (SN2 x (by simp)).1))
  replace SV2 := SV2.other W4 (Or.inl (Ne.symm (SN2 x (by simp)).1))
  replace SR2 := SR2.other W4 (Ne.symm (SN2 x (by simp)).2)
  exact retV d_jdk_42_method_149_26 rfl (by decide) (by decide) ⟨rfl, K, Ex, Fc, ⟨sb1, _, Fv, SR1⟩, by simp, by decide⟩
set_option maxRecDepth 65536 in
set_option maxHeartbeats 40000000 in
theorem rm_stre (l : Launch) (Z : State) (a0 : Array Value) (hw : ∀ d ∈ tables_1, d.before a0 Z = true) (hEL : EW Z a0 consts_1) (n0 : Nat) (x b : Addr) (kc : ClassId) (dv : Value) (h : Heap) (Ex : Exa Z h x "java/lang/String") (Fv : Fld Z h x "java/lang/String" "value" "[B" .null) (Fc : Fld Z h x "java/lang/String" "coder" "B" (.int (0 : Int32))) (Ab : Arv Z h b kc .char (0 : Int32) [] dv)  :
    Met l false Z consts_1 n0 (⟨"java/lang/String", "<init>", "([C)V"⟩ : MethodName) jdk_42_method_3_code 2 none ({ frames := 2, cells := 4, slots := 8, locals := 29 } : Room) [] #[(.ref x), (.ref b)] [x] h (fun v h' => v = none ∧ Keep h h' [x] ∧ Str Z h' x []) := by
  refine Met.of_body (a0 := a0) (L0 := #[.val (.ref x), .val (.ref b)]) (plainFor_of_name (by first | (simp [plainName, overriddenIn]; done) | decide +kernel)) (fun m => by first | rfl | (simp [entryFrame, mkF, argsToLocals, Value.category]; done)) hw hEL (by decide) ?_
  refine aloadN (pc' := 1) d_jdk_42_method_3_0 rfl rfl rfl ?_
  refine aloadN (pc' := 2) d_jdk_42_method_3_1 rfl rfl rfl ?_
  refine iconst (pc' := 3) (v := (0 : Int32)) d_jdk_42_method_3_2 rfl rfl ?_
  refine aloadN (pc' := 4) d_jdk_42_method_3_3 rfl rfl rfl ?_
  refine arraylength (pc' := 5) d_jdk_42_method_3_4 Ab rfl ?_
  refine aconst_null (pc' := 6) d_jdk_42_method_3_5 rfl ?_
  refine call (i := 59) (i2 := 1) (Wd := 0) (pc' := 9) (kInit (i := 56) (i2 := 57) (i4 := 59) (a := x) (argsL := [(.ref b), (.int (0 : Int32)), (.int (0 : Int32)), .null]) (S' := []) (Wd := 0) d_jdk_42_method_3_6 rfl rfl rfl rfl (by decide) rfl pd_0 rfl rfl (Nat.le_of_ble_eq_true rfl)) (rm_str4e l Z a0 hw hEL n0 x b _ Ex Fv Fc) rfl rfl (by simp) (by decide) (by decide) (by decide) (by decide) rfl fun v_ h5 P6 sz7 => ?_
  obtain ⟨rfl, K, Sx⟩ := P6
  refine at' (ce' := 4) (sl' := 8) (pc' := 9) (L' := #[.val (.ref x), .val (.ref b)]) (S' := []) rfl rfl rfl rfl rfl ?_
  exact retV d_jdk_42_method_3_9 rfl (by decide) (by decide) ⟨rfl, K, Sx⟩
theorem strNewW {l : Launch} {Z : State} {a0 : Array Value} {n0 : Nat} {y : MethodName} {B : ByteArray} {ml : Nat} {ret : Option FieldType} {R : Room} {h0 : Heap} {Post : Option Value → Heap → Prop} {fs : List Addr} {h : Heap} {ce sl pc pc' : Nat} {L : Array Slot} {S S' : List Value} {i Wd n : Nat} {x b : Addr} {kC : ClassId} {cs : List Int32} {d : Value} {N : Int32} (hB : Sets Z) (hws : ∀ d ∈ StrChars.Road.words, d ∈ tables_1) (wi : tables_1[i]? = some (.instantiable ST 4)) (kd : Kd l Z a0 y B ml R h ce sl pc L S (⟨"java/lang/String", "<init>", "([C)V"⟩ : MethodName) 3 Wd #[.ref x, .ref b] S')
    (E : Exa Z h x ST) (Vf : Fld Z h x ST "value" "[B" .null) (Cf : Fld Z h x ST "coder" "B" (.int (0 : Int32))) (A : Arv Z h b kC .char N (cs.map Value.int) d) (hn : cs.length = n) (hN : N = Int32.ofNat n) (l2 : n ≤ 4000) (hp : ∀ c ∈ cs, ¬ c < 0 ∧ ¬ (255 : Int32) < c) (hx : x ∈ fs)
    (hfr : 4 ≤ R.frames) (hlo : Wd + 65 ≤ R.locals) (hc : ce + 4 ≤ R.cells) (hs : sl + (n + 8) ≤ R.slots) (hpc : pc + 3 = pc') (K : ∀ h', Keep h h' [x] → Str Z h' x cs → Wq l false Z consts_1 a0 n0 y B ml ret R h0 Post fs h' (ce + 4) (sl + (n + 8)) pc' L S') : Wq l false Z consts_1 a0 n0 y B ml ret R h0 Post fs h ce sl pc L S := by
  rcases Nat.eq_zero_or_pos n with q | q
  · subst q
    obtain rfl := List.eq_nil_of_length_eq_zero hn
    subst hN
    refine ews fun hw hEL => call (i := 55) (i2 := 1) kd (rm_stre l Z a0 hw hEL n0 x b kC d h E Vf Cf A) rfl rfl (fun z r => by cases List.mem_singleton.mp r; exact hx) (by show 2 + 1 ≤ _; omega) (by show Wd + (2 + 11) + 29 ≤ _; omega) hc hs hpc fun v h' hP _ => ?_
    obtain ⟨rfl, k1, s1⟩ := hP
    exact K h' k1 s1
  · exact strNew hB hws wi kd E Vf Cf A hn hN q l2 hp hx hfr hlo (by omega) (by omega) hpc fun h' k1 s1 => more (by omega) (by omega) (K h' k1 s1)
def ok (x : Int32) : Prop := ¬ x < 0 ∧ ¬ (255 : Int32) < x
theorem ok_of {x : Int32} (h0 : 0 ≤ x.toInt) (h1 : x.toInt ≤ 255) : ok x := by
  unfold ok
  rw [Int32.lt_iff_toInt_lt, Int32.lt_iff_toInt_lt]
  have e1 : (255 : Int32).toInt = 255 := rfl
  have e0 : (0 : Int32).toInt = 0 := rfl
  omega
theorem ok_to {x : Int32} (h : ok x) : 0 ≤ x.toInt ∧ x.toInt ≤ 255 := by
  have hi := h.2
  have h0 := h.1
  rw [Int32.lt_iff_toInt_lt] at h0 hi
  have e1 : (255 : Int32).toInt = 255 := rfl
  have e0 : (0 : Int32).toInt = 0 := rfl
  omega
theorem own_ok (x : Int32) : ok (x &&& 255) := by
  have h := c_and x 255 (by decide)
  exact ok_of h.1 h.2
theorem own_nar {x : Int32} (h : ok x) : nar .char x = x := by
  have q := c_i2c x
  have r := ok_to h
  exact Int32.toInt_inj.mp (by show x.toUInt32.toUInt16.toUInt32.toInt32.toInt = x.toInt; omega)
theorem own_lt : ∀ f, f < 12 → ∀ e, e < 12 → (Int32.ofNat f < Int32.ofNat e ↔ f < e) := by decide
theorem own_i2c {x : Int32} (h : ok x) : x.toUInt32.toUInt16.toUInt32.toInt32 = x := own_nar h
theorem own_l8 (x : Int64) : ok (x &&& 255).toInt32 := by
  have q := c_maskL x 255 8 (by decide) (by decide)
  have r := c_l2i (x &&& 255)
  have e : ((2 ^ 8 : Nat) : Int) = 256 := rfl
  rw [e] at q
  have s1 := Int32.toInt_lt (x &&& 255).toInt32
  have s2 := Int32.le_toInt (x &&& 255).toInt32
  exact ok_of (by omega) (by omega)
theorem getD_lt {α : Type} (d : α) {l : List α} {i : Nat} (h : i < l.length) : l.getD i d = l[i] := by
  rw [List.getD_eq_getElem?_getD, List.getElem?_eq_getElem h]; rfl
theorem ok_get {cs : List Int32} {j : Nat} (hp : ∀ c ∈ cs, ¬ c < 0 ∧ ¬ (255 : Int32) < c) (h : j < cs.length) : ok (cs.getD j 0) := by
  rw [getD_lt 0 h]; exact hp _ (List.getElem_mem h)
def t12 (n : Int32) : Prop := n = 0 ∨ n = 1 ∨ n = 2 ∨ n = 3 ∨ n = 4 ∨ n = 5 ∨ n = 6 ∨ n = 7 ∨ n = 8 ∨ n = 9 ∨ n = 10 ∨ n = 11
theorem own_12 {x : Int32} (h : 0 ≤ x.toInt) : t12 (x % 12) := by
  have q := (c_irem x 12 12 rfl).1 h
  have hr : 0 ≤ (x % 12).toInt ∧ (x % 12).toInt < 12 := by omega
  have hc : (x % 12).toInt = 0 ∨ (x % 12).toInt = 1 ∨ (x % 12).toInt = 2 ∨ (x % 12).toInt = 3 ∨ (x % 12).toInt = 4 ∨ (x % 12).toInt = 5 ∨ (x % 12).toInt = 6 ∨ (x % 12).toInt = 7 ∨ (x % 12).toInt = 8 ∨ (x % 12).toInt = 9 ∨ (x % 12).toInt = 10 ∨ (x % 12).toInt = 11 := by omega
  unfold t12
  rcases hc with e | e | e | e | e | e | e | e | e | e | e | e
  · exact Or.inl (Int32.toInt_inj.mp e)
  · exact Or.inr (Or.inl (Int32.toInt_inj.mp e))
  · exact Or.inr (Or.inr (Or.inl (Int32.toInt_inj.mp e)))
  · exact Or.inr (Or.inr (Or.inr (Or.inl (Int32.toInt_inj.mp e))))
  · exact Or.inr (Or.inr (Or.inr (Or.inr (Or.inl (Int32.toInt_inj.mp e)))))
  · exact Or.inr (Or.inr (Or.inr (Or.inr (Or.inr (Or.inl (Int32.toInt_inj.mp e))))))
  · exact Or.inr (Or.inr (Or.inr (Or.inr (Or.inr (Or.inr (Or.inl (Int32.toInt_inj.mp e)))))))
  · exact Or.inr (Or.inr (Or.inr (Or.inr (Or.inr (Or.inr (Or.inr (Or.inl (Int32.toInt_inj.mp e))))))))
  · exact Or.inr (Or.inr (Or.inr (Or.inr (Or.inr (Or.inr (Or.inr (Or.inr (Or.inl (Int32.toInt_inj.mp e)))))))))
  · exact Or.inr (Or.inr (Or.inr (Or.inr (Or.inr (Or.inr (Or.inr (Or.inr (Or.inr (Or.inl (Int32.toInt_inj.mp e))))))))))
  · exact Or.inr (Or.inr (Or.inr (Or.inr (Or.inr (Or.inr (Or.inr (Or.inr (Or.inr (Or.inr (Or.inl (Int32.toInt_inj.mp e)))))))))))
  · exact Or.inr (Or.inr (Or.inr (Or.inr (Or.inr (Or.inr (Or.inr (Or.inr (Or.inr (Or.inr (Or.inr ((Int32.toInt_inj.mp e))))))))))))
theorem own_o12 : ∀ k, k < 12 → t12 (Int32.ofNat k) := by unfold t12; decide
/-- the constants of the enum, as the case says them -/
def En (Z : State) (va : Addr) (kv : ClassId) (c0 c1 c2 c3 m0 m1 m2 m3 : Addr) : Prop := Sta Z Z.heap "com/example/contesta/contesta/rank/Model" "$VALUES" "[Lcom/example/contesta/contesta/rank/Model;" (.ref va) ∧ Arv Z Z.heap va kv (.object "com/example/contesta/contesta/rank/Model") 4 [.ref c0, .ref c1, .ref c2, .ref c3] .null ∧ Exa Z Z.heap va "[Lcom/example/contesta/contesta/rank/Model;" ∧ (Sta Z Z.heap "com/example/contesta/contesta/rank/Model" "RW" "Lcom/example/contesta/contesta/rank/Model;" (.ref c0) ∧ Exa Z Z.heap c0 "com/example/contesta/contesta/rank/Model" ∧ Fld Z Z.heap c0 "com/example/contesta/contesta/rank/Model" "label" "Ljava/lang/String;" (.ref m0) ∧ Str Z Z.heap m0 ([114, 119] : List Int32)) ∧ (Sta Z Z.heap "com/example/contesta/contesta/rank/Model" "DISTANCE" "Lcom/example/contesta/contesta/rank/Model;" (.ref c1) ∧ Exa Z Z.heap c1 "com/example/contesta/contesta/rank/Model" ∧ Fld Z Z.heap c1 "com/example/contesta/contesta/rank/Model" "label" "Ljava/lang/String;" (.ref m1) ∧ Str Z Z.heap m1 ([100, 105, 115, 116, 97, 110, 99, 101] : List Int32)) ∧ (Sta Z Z.heap "com/example/contesta/contesta/rank/Model" "SIMPLE" "Lcom/example/contesta/contesta/rank/Model;" (.ref c2) ∧ Exa Z Z.heap c2 "com/example/contesta/contesta/rank/Model" ∧ Fld Z Z.heap c2 "com/example/contesta/contesta/rank/Model" "label" "Ljava/lang/String;" (.ref m2) ∧ Str Z Z.heap m2 ([115, 105, 109, 112, 108, 101] : List Int32)) ∧ (Sta Z Z.heap "com/example/contesta/contesta/rank/Model" "TERM_WEIGHT" "Lcom/example/contesta/contesta/rank/Model;" (.ref c3) ∧ Exa Z Z.heap c3 "com/example/contesta/contesta/rank/Model" ∧ Fld Z Z.heap c3 "com/example/contesta/contesta/rank/Model" "label" "Ljava/lang/String;" (.ref m3) ∧ Str Z Z.heap m3 ([116, 101, 114, 109, 119, 101, 105, 103, 104, 116] : List Int32))
def Oe (Z : State) (oe : Addr) : Prop := Sta Z Z.heap "java/util/Optional" "EMPTY" "Ljava/util/Optional;" (.ref oe) ∧ Exa Z Z.heap oe "java/util/Optional" ∧ Fld Z Z.heap oe "java/util/Optional" "value" "Ljava/lang/Object;" .null
set_option maxRecDepth 65536 in
set_option maxHeartbeats 40000000 in
theorem rm_values (l : Launch) (Z : State) (a0 : Array Value) (hw : ∀ d ∈ tables_1, d.before a0 Z = true) (hEL : EW Z a0 consts_1) (n0 : Nat) (va : Addr) (kv : ClassId) (c0 c1 c2 c3 m0 m1 m2 m3 oe : Addr) (h : Heap)  (hE : En Z va kv c0 c1 c2 c3 m0 m1 m2 m3) (hO : Oe Z oe) (hB : Sets Z) :
    Met l false Z consts_1 n0 (⟨"com/example/contesta/contesta/rank/Model", "values", "()[Lcom/example/contesta/contesta/rank/Model;"⟩ : MethodName) prog_31_method_1_code 0 (some (.array (.object "com/example/contesta/contesta/rank/Model"))) ({ frames := 1, cells := 1, slots := 4, locals := 14 } : Room) [] #[] [] h (fun v h' => ∃ r kc, v = some (.ref r) ∧ Ext h h' ∧ Arv Z h' r kc (.object "com/example/contesta/contesta/rank/Model") 4 [.ref c0, .ref c1, .ref c2, .ref c3] .null) := by
  refine Met.of_body (a0 := a0) (L0 := #[]) (plainFor_of_name (by first | (simp [plainName, overriddenIn]; done) | decide +kernel)) (fun m => by first | rfl | (simp [entryFrame, mkF, argsToLocals, Value.category]; done)) hw hEL (by decide) ?_
  refine old fun O8 _ => ?_
  refine getstatic (i := 96) (v := (.ref va)) (pc' := 3) d_prog_31_method_1_0 rfl (hE.1.ext O8.2) rfl ?_
  refine old fun O _ => ?_
  refine cloneArr (i1 := 98) (i2 := 99) (i3 := 103) (i4 := 101) (i5 := 102) (i6 := 104) (Wd := 0) (cap := 4) (pc' := 6) d_prog_31_method_1_3 rfl rfl rfl rfl rfl rfl (hE.2.1.ext O.2) (hE.2.2.1.ext O.2) rfl (by decide) (by decide) (by decide) (by decide) (by decide) (by decide) rfl fun h1 r g1 E1 A1 X1 => ?_
  refine at' (ce' := 1) (sl' := 4) (pc' := 6) (L' := #[]) (S' := [(.ref r)]) rfl rfl rfl rfl rfl ?_
  refine checkcast (i := 109) (pc' := 9) d_prog_31_method_1_6 rfl (Ins.self X1) rfl ?_
  exact retA d_prog_31_method_1_9 rfl rfl rfl (by decide) (by decide) ⟨r, _, rfl, E1, A1⟩
set_option maxRecDepth 65536 in
set_option maxHeartbeats 40000000 in
theorem rm_empty (l : Launch) (Z : State) (a0 : Array Value) (hw : ∀ d ∈ tables_1, d.before a0 Z = true) (hEL : EW Z a0 consts_1) (n0 : Nat) (va : Addr) (kv : ClassId) (c0 c1 c2 c3 m0 m1 m2 m3 oe : Addr) (h : Heap)  (hE : En Z va kv c0 c1 c2 c3 m0 m1 m2 m3) (hO : Oe Z oe) (hB : Sets Z) :
    Met l false Z consts_1 n0 (⟨"java/util/Optional", "empty", "()Ljava/util/Optional;"⟩ : MethodName) jdk_32_method_1_code 1 (some (.object "java/util/Optional")) ({ frames := 0, cells := 0, slots := 0, locals := 0 } : Room) [] #[] [] h (fun v h' => v = some (.ref oe) ∧ h' = h) := by
  refine Met.of_body (a0 := a0) (L0 := #[.unset]) (plainFor_of_name (by first | (simp [plainName, overriddenIn]; done) | decide +kernel)) (fun m => by first | rfl | (simp [entryFrame, mkF, argsToLocals, Value.category]; done)) hw hEL (by decide) ?_
  refine old fun O9 _ => ?_
  refine getstatic (i := 92) (v := (.ref oe)) (pc' := 3) d_jdk_32_method_1_0 rfl (hO.1.ext O9.2) rfl ?_
  refine astoreN (pc' := 4) (L' := #[.val (.ref oe)]) d_jdk_32_method_1_3 rfl rfl rfl ?_
  refine aloadN (pc' := 5) d_jdk_32_method_1_4 rfl rfl rfl ?_
  exact retA d_jdk_32_method_1_5 rfl rfl rfl (by decide) (by decide) ⟨rfl, rfl⟩
set_option maxRecDepth 65536 in
set_option maxHeartbeats 40000000 in
theorem rm_rnn (l : Launch) (Z : State) (a0 : Array Value) (hw : ∀ d ∈ tables_1, d.before a0 Z = true) (hEL : EW Z a0 consts_1) (n0 : Nat) (a : Addr) (h : Heap)   :
    Met l false Z consts_1 n0 (⟨"java/util/Objects", "requireNonNull", "(Ljava/lang/Object;)Ljava/lang/Object;"⟩ : MethodName) jdk_31_method_10_code 1 (some (.object "java/lang/Object")) ({ frames := 0, cells := 0, slots := 0, locals := 0 } : Room) [] #[(.ref a)] [] h (fun v h' => v = some (.ref a) ∧ h' = h) := by
  refine Met.of_body (a0 := a0) (L0 := #[.val (.ref a)]) (plainFor_of_name (by first | (simp [plainName, overriddenIn]; done) | decide +kernel)) (fun m => by first | rfl | (simp [entryFrame, mkF, argsToLocals, Value.category]; done)) hw hEL (by decide) ?_
  refine aloadN (pc' := 1) d_jdk_31_method_10_0 rfl rfl rfl ?_
  refine ifnonnullT (pc' := 12) d_jdk_31_method_10_1 (by decide) rfl ?_
  refine aloadN (pc' := 13) d_jdk_31_method_10_12 rfl rfl rfl ?_
  exact retA d_jdk_31_method_10_13 rfl rfl rfl (by decide) (by decide) ⟨rfl, rfl⟩
set_option maxRecDepth 65536 in
set_option maxHeartbeats 40000000 in
theorem rm_oi (l : Launch) (Z : State) (a0 : Array Value) (hw : ∀ d ∈ tables_1, d.before a0 Z = true) (hEL : EW Z a0 consts_1) (n0 : Nat) (a c : Addr) (h : Heap) (Ea : Exa Z h a "java/util/Optional") (Fv : Fld Z h a "java/util/Optional" "value" "Ljava/lang/Object;" .null)  :
    Met l false Z consts_1 n0 (⟨"java/util/Optional", "<init>", "(Ljava/lang/Object;)V"⟩ : MethodName) jdk_32_method_2_code 2 none ({ frames := 1, cells := 0, slots := 0, locals := 12 } : Room) [] #[(.ref a), (.ref c)] [a] h (fun v h' => v = none ∧ Keep h h' [a] ∧ Exa Z h' a "java/util/Optional" ∧ Fld Z h' a "java/util/Optional" "value" "Ljava/lang/Object;" (.ref c)) := by
  refine Met.of_body (a0 := a0) (L0 := #[.val (.ref a), .val (.ref c)]) (plainFor_of_name (by first | (simp [plainName, overriddenIn]; done) | decide +kernel)) (fun m => by first | rfl | (simp [entryFrame, mkF, argsToLocals, Value.category]; done)) hw hEL (by decide) ?_
  have K : Keep h h [a] := Keep.refl _ _
  refine aloadN (pc' := 1) d_jdk_32_method_2_0 rfl rfl rfl ?_
  refine initObj (i := 127) (i2 := 61) (i3 := 62) (Wd := 0) (pc' := 4) d_jdk_32_method_2_1 rfl rfl rfl rfl (by decide) (Nat.le_of_ble_eq_true rfl) (by decide) rfl ?_
  refine aloadN (pc' := 5) d_jdk_32_method_2_4 rfl rfl rfl ?_
  refine aloadN (pc' := 6) d_jdk_32_method_2_5 rfl rfl rfl ?_
  refine putfield (i := 128) (i2 := 129) (i3 := 118) (pc' := 9) (v' := (.ref c)) (ty := (.object "java/lang/Object")) d_jdk_32_method_2_6 rfl (Or.inr ⟨rfl, rfl, rfl⟩) rfl Fv Ea (by decide) rfl rfl (by simp) rfl fun h10 W11 => ?_
  replace K := K.wr W11 (Or.inl (by simp))
  replace Ea := Ea.wr W11
  replace Fv := Fv.same W11
  exact retV d_jdk_32_method_2_9 rfl (by decide) (by decide) ⟨rfl, K, Ea, Fv⟩
set_option maxRecDepth 65536 in
set_option maxHeartbeats 40000000 in
theorem rm_of (l : Launch) (Z : State) (a0 : Array Value) (hw : ∀ d ∈ tables_1, d.before a0 Z = true) (hEL : EW Z a0 consts_1) (n0 : Nat) (c : Addr) (h : Heap)   :
    Met l false Z consts_1 n0 (⟨"java/util/Optional", "of", "(Ljava/lang/Object;)Ljava/util/Optional;"⟩ : MethodName) jdk_32_method_3_code 1 (some (.object "java/util/Optional")) ({ frames := 2, cells := 1, slots := 1, locals := 28 } : Room) [] #[(.ref c)] [] h (fun v h' => ∃ a, v = some (.ref a) ∧ Ext h h' ∧ Exa Z h' a "java/util/Optional" ∧ Fld Z h' a "java/util/Optional" "value" "Ljava/lang/Object;" (.ref c)) := by
  refine Met.of_body (a0 := a0) (L0 := #[.val (.ref c)]) (plainFor_of_name (by first | (simp [plainName, overriddenIn]; done) | decide +kernel)) (fun m => by first | rfl | (simp [entryFrame, mkF, argsToLocals, Value.category]; done)) hw hEL (by decide) ?_
  have K : Keep h h [] := Keep.refl _ _
  refine new (i := 117) (i2 := 118) (i3 := 90) (pc' := 3) d_jdk_32_method_3_0 rfl rfl rfl (by decide) (by decide) rfl fun h12 a13 g14 E15 A16 D17 => ?_
  have sz_a13 : h.size ≤ a13 := by rw [g14]; exact K.1
  replace K := K.ext E15
  have F_value_a13 : Fld Z h12 a13 "java/util/Optional" "value" "Ljava/lang/Object;" .null := D17 (Or.inr (hw _ (List.mem_of_getElem? (i := 129) rfl))) (ty := (.object "java/lang/Object")) (by decide)
  refine dup (pc' := 4) d_jdk_32_method_3_3 rfl rfl ?_
  refine aloadN (pc' := 5) d_jdk_32_method_3_4 rfl rfl rfl ?_
  refine call (i := 122) (i2 := 121) (Wd := 2) (pc' := 8) (kStatic (i := 119) (i2 := 120) (i3 := 121) (i4 := 122) (argsL := [(.ref c)]) (S' := [(.ref a13), (.ref a13)]) (Wd := 2) d_jdk_32_method_3_5 rfl rfl rfl rfl (by decide) rfl pd_1 rfl rfl (Nat.le_of_ble_eq_true rfl)) (rm_rnn l Z a0 hw hEL n0 c _) rfl rfl (by simp) (by decide) (by decide) (by decide) (by decide) rfl fun v_ h18 P19 sz20 => ?_
  obtain ⟨rfl, e21⟩ := P19
  rw [e21]
  refine at' (ce' := 1) (sl' := 1) (pc' := 8) (L' := #[.val (.ref c)]) (S' := [(.ref c), (.ref a13), (.ref a13)]) rfl rfl rfl rfl rfl ?_
  refine call (i := 126) (i2 := 90) (Wd := 1) (pc' := 11) (kInit (i := 123) (i2 := 124) (i4 := 126) (a := a13) (argsL := [(.ref c)]) (S' := [(.ref a13)]) (Wd := 1) d_jdk_32_method_3_8 rfl rfl rfl rfl (by decide) rfl pd_2 rfl rfl (Nat.le_of_ble_eq_true rfl)) (rm_oi l Z a0 hw hEL n0 a13 c _ A16 F_value_a13) rfl rfl (by simp) (by decide) (by decide) (by decide) (by decide) rfl fun v_ h22 P23 sz24 => ?_
  obtain ⟨rfl, K1, E1, F1⟩ := P23
  replace K := K.trans K1 (allS (Or.inr sz_a13) all0)
  replace A16 := A16.keep K1
  refine at' (ce' := 1) (sl' := 1) (pc' := 11) (L' := #[.val (.ref c)]) (S' := [(.ref a13)]) rfl rfl rfl rfl rfl ?_
  exact retA d_jdk_32_method_3_11 rfl rfl rfl (by decide) (by decide) ⟨a13, rfl, keepExt K, E1, F1⟩
set_option maxRecDepth 65536 in
set_option maxHeartbeats 40000000 in
theorem rm_orR (l : Launch) (Z : State) (a0 : Array Value) (hw : ∀ d ∈ tables_1, d.before a0 Z = true) (hEL : EW Z a0 consts_1) (n0 : Nat) (a c : Addr) (h : Heap) (Fv : Fld Z h a "java/util/Optional" "value" "Ljava/lang/Object;" (.ref c))  :
    Met l false Z consts_1 n0 (⟨"java/util/Optional", "orElse", "(Ljava/lang/Object;)Ljava/lang/Object;"⟩ : MethodName) jdk_32_method_15_code 2 (some (.object "java/lang/Object")) ({ frames := 0, cells := 0, slots := 0, locals := 0 } : Room) [] #[(.ref a), .null] [] h (fun v h' => v = some (.ref c) ∧ h' = h) := by
  refine Met.of_body (a0 := a0) (L0 := #[.val (.ref a), .val .null]) (plainFor_of_name (by first | (simp [plainName, overriddenIn]; done) | decide +kernel)) (fun m => by first | rfl | (simp [entryFrame, mkF, argsToLocals, Value.category]; done)) hw hEL (by decide) ?_
  refine aloadN (pc' := 1) d_jdk_32_method_15_0 rfl rfl rfl ?_
  refine getfield (i := 128) (pc' := 4) d_jdk_32_method_15_1 rfl Fv rfl ?_
  refine ifnullF (pc' := 7) d_jdk_32_method_15_4 rfl ?_
  refine aloadN (pc' := 8) d_jdk_32_method_15_7 rfl rfl rfl ?_
  refine getfield (i := 128) (pc' := 11) d_jdk_32_method_15_8 rfl Fv rfl ?_
  refine goto (pc' := 15) d_jdk_32_method_15_11 (by decide) rfl ?_
  exact retA d_jdk_32_method_15_15 rfl rfl rfl (by decide) (by decide) ⟨rfl, rfl⟩
set_option maxRecDepth 65536 in
set_option maxHeartbeats 40000000 in
theorem rm_orN (l : Launch) (Z : State) (a0 : Array Value) (hw : ∀ d ∈ tables_1, d.before a0 Z = true) (hEL : EW Z a0 consts_1) (n0 : Nat) (a : Addr) (h : Heap) (Fv : Fld Z h a "java/util/Optional" "value" "Ljava/lang/Object;" .null)  :
    Met l false Z consts_1 n0 (⟨"java/util/Optional", "orElse", "(Ljava/lang/Object;)Ljava/lang/Object;"⟩ : MethodName) jdk_32_method_15_code 2 (some (.object "java/lang/Object")) ({ frames := 0, cells := 0, slots := 0, locals := 0 } : Room) [] #[(.ref a), .null] [] h (fun v h' => v = some .null ∧ h' = h) := by
  refine Met.of_body (a0 := a0) (L0 := #[.val (.ref a), .val .null]) (plainFor_of_name (by first | (simp [plainName, overriddenIn]; done) | decide +kernel)) (fun m => by first | rfl | (simp [entryFrame, mkF, argsToLocals, Value.category]; done)) hw hEL (by decide) ?_
  refine aloadN (pc' := 1) d_jdk_32_method_15_0 rfl rfl rfl ?_
  refine getfield (i := 128) (pc' := 4) d_jdk_32_method_15_1 rfl Fv rfl ?_
  refine ifnullT (pc' := 14) d_jdk_32_method_15_4 (by decide) rfl ?_
  refine aloadN (pc' := 15) d_jdk_32_method_15_14 rfl rfl rfl ?_
  exact retA d_jdk_32_method_15_15 rfl rfl rfl (by decide) (by decide) ⟨rfl, rfl⟩
set_option maxRecDepth 65536 in
set_option maxHeartbeats 40000000 in
theorem rm_eqN (l : Launch) (Z : State) (a0 : Array Value) (hw : ∀ d ∈ tables_1, d.before a0 Z = true) (hEL : EW Z a0 consts_1) (n0 : Nat) (x : Addr) (h : Heap)   :
    Met l false Z consts_1 n0 (⟨"java/lang/String", "equals", "(Ljava/lang/Object;)Z"⟩ : MethodName) jdk_42_method_66_code 3 (some .boolean) ({ frames := 0, cells := 0, slots := 0, locals := 0 } : Room) [] #[(.ref x), .null] [] h (fun v h' => v = some (.int 0) ∧ h' = h) := by
  refine Met.of_body (a0 := a0) (L0 := #[.val (.ref x), .val .null, .unset]) (plainFor_of_name (by first | (simp [plainName, overriddenIn]; done) | decide +kernel)) (fun m => by first | rfl | (simp [entryFrame, mkF, argsToLocals, Value.category]; done)) hw hEL (by decide) ?_
  refine aloadN (pc' := 1) d_jdk_42_method_66_0 rfl rfl rfl ?_
  refine aloadN (pc' := 2) d_jdk_42_method_66_1 rfl rfl rfl ?_
  refine acmp (pc' := 7) (v := (.ref x)) (w := .null) false d_jdk_42_method_66_2 rfl rfl (decide_eq_false (fun q => Value.noConfusion q)) (by decide) rfl ?_
  refine aloadN (pc' := 8) d_jdk_42_method_66_7 rfl rfl rfl ?_
  refine instanceofNull (pc' := 11) d_jdk_42_method_66_8 rfl ?_
  refine ifT (pc' := 54) d_jdk_42_method_66_11 (rfl : (0 : Int32) = (0 : Int32)) (by decide) rfl ?_
  refine iconst (pc' := 55) (v := (0 : Int32)) d_jdk_42_method_66_54 rfl rfl ?_
  exact retI d_jdk_42_method_66_55 rfl (Or.inr (Or.inl rfl)) rfl (by decide) (by decide) ⟨rfl, rfl⟩
set_option maxRecDepth 65536 in
set_option maxHeartbeats 40000000 in
theorem rm_named0 (l : Launch) (Z : State) (a0 : Array Value) (hw : ∀ d ∈ tables_1, d.before a0 Z = true) (hEL : EW Z a0 consts_1) (n0 : Nat) (va : Addr) (kv : ClassId) (c0 c1 c2 c3 m0 m1 m2 m3 oe : Addr) (s : Addr) (cs : List Int32) (h : Heap) (Ss : Str Z h s cs) (hE : En Z va kv c0 c1 c2 c3 m0 m1 m2 m3) (hO : Oe Z oe) (hB : Sets Z) (hcs : cs = ([114, 119] : List Int32)) :
    Met l false Z consts_1 n0 (⟨"com/example/contesta/contesta/rank/Model", "named", "(Ljava/lang/String;)Ljava/util/Optional;"⟩ : MethodName) prog_31_method_6_code 6 (some (.object "java/util/Optional")) ({ frames := 3, cells := 2, slots := 5, locals := 45 } : Room) [] #[(.ref s)] [] h (fun v h' => ∃ a, v = some (.ref a) ∧ Ext h h' ∧ Exa Z h' a "java/util/Optional" ∧ Fld Z h' a "java/util/Optional" "value" "Ljava/lang/Object;" (.ref c0)) := by
  refine Met.of_body (a0 := a0) (L0 := #[.val (.ref s), .unset, .unset, .unset, .unset, .unset]) (plainFor_of_name (by first | (simp [plainName, overriddenIn]; done) | decide +kernel)) (fun m => by first | rfl | (simp [entryFrame, mkF, argsToLocals, Value.category]; done)) hw hEL (by decide) ?_
  have K : Keep h h [] := Keep.refl _ _
  refine call (i := 91) (i2 := 90) (Wd := 0) (pc' := 3) (kStatic (i := 88) (i2 := 89) (i3 := 90) (i4 := 91) (argsL := []) (S' := []) (Wd := 0) d_prog_31_method_6_0 rfl rfl rfl rfl (by decide) rfl pd_3 rfl rfl (Nat.le_of_ble_eq_true rfl)) (rm_empty l Z a0 hw hEL n0 va kv c0 c1 c2 c3 m0 m1 m2 m3 oe _ hE hO hB) rfl rfl (by simp) (by decide) (by decide) (by decide) (by decide) rfl fun v_ h25 P26 sz27 => ?_
  obtain ⟨rfl, e28⟩ := P26
  rw [e28]
  refine at' (ce' := 0) (sl' := 0) (pc' := 3) (L' := #[.val (.ref s), .unset, .unset, .unset, .unset, .unset]) (S' := [(.ref oe)]) rfl rfl rfl rfl rfl ?_
  refine astoreN (pc' := 4) (L' := #[.val (.ref s), .val (.ref oe), .unset, .unset, .unset, .unset]) d_prog_31_method_6_3 rfl rfl rfl ?_
  refine call (i := 95) (i2 := 83) (Wd := 0) (pc' := 7) (kStatic (i := 93) (i2 := 94) (i3 := 83) (i4 := 95) (argsL := []) (S' := []) (Wd := 0) d_prog_31_method_6_4 rfl rfl rfl rfl (by decide) rfl pd_4 rfl rfl (Nat.le_of_ble_eq_true rfl)) (rm_values l Z a0 hw hEL n0 va kv c0 c1 c2 c3 m0 m1 m2 m3 oe _ hE hO hB) rfl rfl (by simp) (by decide) (by decide) (by decide) (by decide) rfl fun v_ h29 P30 sz31 => ?_
  obtain ⟨r, kc, rfl, E1, A1⟩ := P30
  replace K := K.ext E1
  replace Ss := Ss.ext E1
  refine at' (ce' := 1) (sl' := 4) (pc' := 7) (L' := #[.val (.ref s), .val (.ref oe), .unset, .unset, .unset, .unset]) (S' := [(.ref r)]) rfl rfl rfl rfl rfl ?_
  refine astoreN (pc' := 8) (L' := #[.val (.ref s), .val (.ref oe), .val (.ref r), .unset, .unset, .unset]) d_prog_31_method_6_7 rfl rfl rfl ?_
  refine aloadN (pc' := 9) d_prog_31_method_6_8 rfl rfl rfl ?_
  refine arraylength (pc' := 10) d_prog_31_method_6_9 A1 rfl ?_
  refine istoreN (pc' := 11) (L' := #[.val (.ref s), .val (.ref oe), .val (.ref r), .val (.int (4 : Int32)), .unset, .unset]) d_prog_31_method_6_10 rfl rfl ?_
  refine iconst (pc' := 12) (v := (0 : Int32)) d_prog_31_method_6_11 rfl rfl ?_
  refine istore (pc' := 14) (L' := #[.val (.ref s), .val (.ref oe), .val (.ref r), .val (.int (4 : Int32)), .val (.int (0 : Int32)), .unset]) d_prog_31_method_6_12 rfl rfl ?_
  refine iload (pc' := 16) d_prog_31_method_6_14 rfl rfl ?_
  refine iloadN (pc' := 17) d_prog_31_method_6_16 rfl rfl ?_
  refine icmpF (pc' := 20) d_prog_31_method_6_17 (by decide : (0 : Int32) < (4 : Int32)) rfl ?_
  refine aloadN (pc' := 21) d_prog_31_method_6_20 rfl rfl rfl ?_
  refine iload (pc' := 23) d_prog_31_method_6_21 rfl rfl ?_
  refine aaload (pc' := 24) (v := .ref c0) d_prog_31_method_6_23 rfl A1 ⟨by decide, by decide⟩ rfl rfl ?_
  refine astore (pc' := 26) (L' := #[.val (.ref s), .val (.ref oe), .val (.ref r), .val (.int (4 : Int32)), .val (.int (0 : Int32)), .val (.ref c0)]) d_prog_31_method_6_24 rfl rfl rfl ?_
  refine aload (pc' := 28) d_prog_31_method_6_26 rfl rfl rfl ?_
  refine old fun O0 _ => ?_
  refine getfield (i := 111) (pc' := 31) d_prog_31_method_6_28 rfl (hE.2.2.2.1.2.2.1.ext O0.2) rfl ?_
  refine aloadN (pc' := 32) d_prog_31_method_6_31 rfl rfl rfl ?_
  refine strEq (i := 2) (Wd := 0) (pc' := 35) hB (by decide +kernel) rfl (kVirt (i := 113) (i2 := 74) (i3 := 76) (i4 := 75) (C := "java/lang/String") (a := m0) (argsL := [(.ref s)]) (S' := []) (Wd := 0) d_prog_31_method_6_32 rfl rfl rfl rfl (hE.2.2.2.1.2.2.2.ext O0.2).exa (by decide) rfl pd_5 rfl rfl (Nat.le_of_ble_eq_true rfl)) (hE.2.2.2.1.2.2.2.ext O0.2) Ss (by decide) (by decide) (by decide) (by decide) rfl fun b0 q0 => ?_
  obtain rfl : b0 = 1 := by rcases q0 with ⟨r, q⟩ | ⟨r, q⟩ <;> rw [hcs] at q <;> first | exact r | exact absurd q (by decide) | exact absurd rfl q
  refine ifF (pc' := 38) d_prog_31_method_6_35 (by decide : ¬ ((1 : Int32) = (0 : Int32))) rfl ?_
  refine aload (pc' := 40) d_prog_31_method_6_38 rfl rfl rfl ?_
  refine call (i := 116) (i2 := 90) (Wd := 0) (pc' := 43) (kStatic (i := 114) (i2 := 115) (i3 := 90) (i4 := 116) (argsL := [(.ref c0)]) (S' := []) (Wd := 0) d_prog_31_method_6_40 rfl rfl rfl rfl (by decide) rfl pd_6 rfl rfl (Nat.le_of_ble_eq_true rfl)) (rm_of l Z a0 hw hEL n0 c0 _) rfl rfl (by simp) (by decide) (by decide) (by decide) (by decide) rfl fun v_ h32 P33 sz34 => ?_
  obtain ⟨o, rfl, X1, Eo, Fo⟩ := P33
  replace K := K.ext X1
  replace Ss := Ss.ext X1
  replace A1 := A1.ext X1
  refine at' (ce' := 2) (sl' := 5) (pc' := 43) (L' := #[.val (.ref s), .val (.ref oe), .val (.ref r), .val (.int (4 : Int32)), .val (.int (0 : Int32)), .val (.ref c0)]) (S' := [(.ref o)]) rfl rfl rfl rfl rfl ?_
  refine astoreN (pc' := 44) (L' := #[.val (.ref s), .val (.ref o), .val (.ref r), .val (.int (4 : Int32)), .val (.int (0 : Int32)), .val (.ref c0)]) d_prog_31_method_6_43 rfl rfl rfl ?_
  refine iinc (pc' := 47) (v := (1 : Int32)) (L' := #[.val (.ref s), .val (.ref o), .val (.ref r), .val (.int (4 : Int32)), .val (.int (1 : Int32)), .val (.ref c0)]) d_prog_31_method_6_44 rfl rfl rfl rfl ?_
  refine goto (pc' := 14) d_prog_31_method_6_47 (by decide) rfl ?_
  refine iload (pc' := 16) d_prog_31_method_6_14 rfl rfl ?_
  refine iloadN (pc' := 17) d_prog_31_method_6_16 rfl rfl ?_
  refine icmpF (pc' := 20) d_prog_31_method_6_17 (by decide : (1 : Int32) < (4 : Int32)) rfl ?_
  refine aloadN (pc' := 21) d_prog_31_method_6_20 rfl rfl rfl ?_
  refine iload (pc' := 23) d_prog_31_method_6_21 rfl rfl ?_
  refine aaload (pc' := 24) (v := .ref c1) d_prog_31_method_6_23 rfl A1 ⟨by decide, by decide⟩ rfl rfl ?_
  refine astore (pc' := 26) (L' := #[.val (.ref s), .val (.ref o), .val (.ref r), .val (.int (4 : Int32)), .val (.int (1 : Int32)), .val (.ref c1)]) d_prog_31_method_6_24 rfl rfl rfl ?_
  refine aload (pc' := 28) d_prog_31_method_6_26 rfl rfl rfl ?_
  refine old fun O1 _ => ?_
  refine getfield (i := 111) (pc' := 31) d_prog_31_method_6_28 rfl (hE.2.2.2.2.1.2.2.1.ext O1.2) rfl ?_
  refine aloadN (pc' := 32) d_prog_31_method_6_31 rfl rfl rfl ?_
  refine strEq (i := 2) (Wd := 0) (pc' := 35) hB (by decide +kernel) rfl (kVirt (i := 113) (i2 := 74) (i3 := 76) (i4 := 75) (C := "java/lang/String") (a := m1) (argsL := [(.ref s)]) (S' := []) (Wd := 0) d_prog_31_method_6_32 rfl rfl rfl rfl (hE.2.2.2.2.1.2.2.2.ext O1.2).exa (by decide) rfl pd_5 rfl rfl (Nat.le_of_ble_eq_true rfl)) (hE.2.2.2.2.1.2.2.2.ext O1.2) Ss (by decide) (by decide) (by decide) (by decide) rfl fun b1 q1 => ?_
  obtain rfl : b1 = 0 := by rcases q1 with ⟨r, q⟩ | ⟨r, q⟩ <;> rw [hcs] at q <;> first | exact r | exact absurd q (by decide) | exact absurd rfl q
  refine ifT (pc' := 44) d_prog_31_method_6_35 (rfl : (0 : Int32) = (0 : Int32)) (by decide) rfl ?_
  refine iinc (pc' := 47) (v := (2 : Int32)) (L' := #[.val (.ref s), .val (.ref o), .val (.ref r), .val (.int (4 : Int32)), .val (.int (2 : Int32)), .val (.ref c1)]) d_prog_31_method_6_44 rfl rfl rfl rfl ?_
  refine goto (pc' := 14) d_prog_31_method_6_47 (by decide) rfl ?_
  refine iload (pc' := 16) d_prog_31_method_6_14 rfl rfl ?_
  refine iloadN (pc' := 17) d_prog_31_method_6_16 rfl rfl ?_
  refine icmpF (pc' := 20) d_prog_31_method_6_17 (by decide : (2 : Int32) < (4 : Int32)) rfl ?_
  refine aloadN (pc' := 21) d_prog_31_method_6_20 rfl rfl rfl ?_
  refine iload (pc' := 23) d_prog_31_method_6_21 rfl rfl ?_
  refine aaload (pc' := 24) (v := .ref c2) d_prog_31_method_6_23 rfl A1 ⟨by decide, by decide⟩ rfl rfl ?_
  refine astore (pc' := 26) (L' := #[.val (.ref s), .val (.ref o), .val (.ref r), .val (.int (4 : Int32)), .val (.int (2 : Int32)), .val (.ref c2)]) d_prog_31_method_6_24 rfl rfl rfl ?_
  refine aload (pc' := 28) d_prog_31_method_6_26 rfl rfl rfl ?_
  refine old fun O2 _ => ?_
  refine getfield (i := 111) (pc' := 31) d_prog_31_method_6_28 rfl (hE.2.2.2.2.2.1.2.2.1.ext O2.2) rfl ?_
  refine aloadN (pc' := 32) d_prog_31_method_6_31 rfl rfl rfl ?_
  refine strEq (i := 2) (Wd := 0) (pc' := 35) hB (by decide +kernel) rfl (kVirt (i := 113) (i2 := 74) (i3 := 76) (i4 := 75) (C := "java/lang/String") (a := m2) (argsL := [(.ref s)]) (S' := []) (Wd := 0) d_prog_31_method_6_32 rfl rfl rfl rfl (hE.2.2.2.2.2.1.2.2.2.ext O2.2).exa (by decide) rfl pd_5 rfl rfl (Nat.le_of_ble_eq_true rfl)) (hE.2.2.2.2.2.1.2.2.2.ext O2.2) Ss (by decide) (by decide) (by decide) (by decide) rfl fun b2 q2 => ?_
  obtain rfl : b2 = 0 := by rcases q2 with ⟨r, q⟩ | ⟨r, q⟩ <;> rw [hcs] at q <;> first | exact r | exact absurd q (by decide) | exact absurd rfl q
  refine ifT (pc' := 44) d_prog_31_method_6_35 (rfl : (0 : Int32) = (0 : Int32)) (by decide) rfl ?_
  refine iinc (pc' := 47) (v := (3 : Int32)) (L' := #[.val (.ref s), .val (.ref o), .val (.ref r), .val (.int (4 : Int32)), .val (.int (3 : Int32)), .val (.ref c2)]) d_prog_31_method_6_44 rfl rfl rfl rfl ?_
  refine goto (pc' := 14) d_prog_31_method_6_47 (by decide) rfl ?_
  refine iload (pc' := 16) d_prog_31_method_6_14 rfl rfl ?_
  refine iloadN (pc' := 17) d_prog_31_method_6_16 rfl rfl ?_
  refine icmpF (pc' := 20) d_prog_31_method_6_17 (by decide : (3 : Int32) < (4 : Int32)) rfl ?_
  refine aloadN (pc' := 21) d_prog_31_method_6_20 rfl rfl rfl ?_
  refine iload (pc' := 23) d_prog_31_method_6_21 rfl rfl ?_
  refine aaload (pc' := 24) (v := .ref c3) d_prog_31_method_6_23 rfl A1 ⟨by decide, by decide⟩ rfl rfl ?_
  refine astore (pc' := 26) (L' := #[.val (.ref s), .val (.ref o), .val (.ref r), .val (.int (4 : Int32)), .val (.int (3 : Int32)), .val (.ref c3)]) d_prog_31_method_6_24 rfl rfl rfl ?_
  refine aload (pc' := 28) d_prog_31_method_6_26 rfl rfl rfl ?_
  refine old fun O3 _ => ?_
  refine getfield (i := 111) (pc' := 31) d_prog_31_method_6_28 rfl (hE.2.2.2.2.2.2.2.2.1.ext O3.2) rfl ?_
  refine aloadN (pc' := 32) d_prog_31_method_6_31 rfl rfl rfl ?_
  refine strEq (i := 2) (Wd := 0) (pc' := 35) hB (by decide +kernel) rfl (kVirt (i := 113) (i2 := 74) (i3 := 76) (i4 := 75) (C := "java/lang/String") (a := m3) (argsL := [(.ref s)]) (S' := []) (Wd := 0) d_prog_31_method_6_32 rfl rfl rfl rfl (hE.2.2.2.2.2.2.2.2.2.ext O3.2).exa (by decide) rfl pd_5 rfl rfl (Nat.le_of_ble_eq_true rfl)) (hE.2.2.2.2.2.2.2.2.2.ext O3.2) Ss (by decide) (by decide) (by decide) (by decide) rfl fun b3 q3 => ?_
  obtain rfl : b3 = 0 := by rcases q3 with ⟨r, q⟩ | ⟨r, q⟩ <;> rw [hcs] at q <;> first | exact r | exact absurd q (by decide) | exact absurd rfl q
  refine ifT (pc' := 44) d_prog_31_method_6_35 (rfl : (0 : Int32) = (0 : Int32)) (by decide) rfl ?_
  refine iinc (pc' := 47) (v := (4 : Int32)) (L' := #[.val (.ref s), .val (.ref o), .val (.ref r), .val (.int (4 : Int32)), .val (.int (4 : Int32)), .val (.ref c3)]) d_prog_31_method_6_44 rfl rfl rfl rfl ?_
  refine goto (pc' := 14) d_prog_31_method_6_47 (by decide) rfl ?_
  refine iload (pc' := 16) d_prog_31_method_6_14 rfl rfl ?_
  refine iloadN (pc' := 17) d_prog_31_method_6_16 rfl rfl ?_
  refine icmpT (pc' := 50) d_prog_31_method_6_17 (by decide : ¬ ((4 : Int32) < (4 : Int32))) (by decide) rfl ?_
  refine aloadN (pc' := 51) d_prog_31_method_6_50 rfl rfl rfl ?_
  exact retA d_prog_31_method_6_51 rfl rfl rfl (by decide) (by decide) ⟨o, rfl, keepExt K, Eo, Fo⟩
set_option maxRecDepth 65536 in
set_option maxHeartbeats 40000000 in
theorem rm_named1 (l : Launch) (Z : State) (a0 : Array Value) (hw : ∀ d ∈ tables_1, d.before a0 Z = true) (hEL : EW Z a0 consts_1) (n0 : Nat) (va : Addr) (kv : ClassId) (c0 c1 c2 c3 m0 m1 m2 m3 oe : Addr) (s : Addr) (cs : List Int32) (h : Heap) (Ss : Str Z h s cs) (hE : En Z va kv c0 c1 c2 c3 m0 m1 m2 m3) (hO : Oe Z oe) (hB : Sets Z) (hcs : cs = ([100, 105, 115, 116, 97, 110, 99, 101] : List Int32)) :
    Met l false Z consts_1 n0 (⟨"com/example/contesta/contesta/rank/Model", "named", "(Ljava/lang/String;)Ljava/util/Optional;"⟩ : MethodName) prog_31_method_6_code 6 (some (.object "java/util/Optional")) ({ frames := 3, cells := 2, slots := 5, locals := 45 } : Room) [] #[(.ref s)] [] h (fun v h' => ∃ a, v = some (.ref a) ∧ Ext h h' ∧ Exa Z h' a "java/util/Optional" ∧ Fld Z h' a "java/util/Optional" "value" "Ljava/lang/Object;" (.ref c1)) := by
  refine Met.of_body (a0 := a0) (L0 := #[.val (.ref s), .unset, .unset, .unset, .unset, .unset]) (plainFor_of_name (by first | (simp [plainName, overriddenIn]; done) | decide +kernel)) (fun m => by first | rfl | (simp [entryFrame, mkF, argsToLocals, Value.category]; done)) hw hEL (by decide) ?_
  have K : Keep h h [] := Keep.refl _ _
  refine call (i := 91) (i2 := 90) (Wd := 0) (pc' := 3) (kStatic (i := 88) (i2 := 89) (i3 := 90) (i4 := 91) (argsL := []) (S' := []) (Wd := 0) d_prog_31_method_6_0 rfl rfl rfl rfl (by decide) rfl pd_3 rfl rfl (Nat.le_of_ble_eq_true rfl)) (rm_empty l Z a0 hw hEL n0 va kv c0 c1 c2 c3 m0 m1 m2 m3 oe _ hE hO hB) rfl rfl (by simp) (by decide) (by decide) (by decide) (by decide) rfl fun v_ h35 P36 sz37 => ?_
  obtain ⟨rfl, e38⟩ := P36
  rw [e38]
  refine at' (ce' := 0) (sl' := 0) (pc' := 3) (L' := #[.val (.ref s), .unset, .unset, .unset, .unset, .unset]) (S' := [(.ref oe)]) rfl rfl rfl rfl rfl ?_
  refine astoreN (pc' := 4) (L' := #[.val (.ref s), .val (.ref oe), .unset, .unset, .unset, .unset]) d_prog_31_method_6_3 rfl rfl rfl ?_
  refine call (i := 95) (i2 := 83) (Wd := 0) (pc' := 7) (kStatic (i := 93) (i2 := 94) (i3 := 83) (i4 := 95) (argsL := []) (S' := []) (Wd := 0) d_prog_31_method_6_4 rfl rfl rfl rfl (by decide) rfl pd_4 rfl rfl (Nat.le_of_ble_eq_true rfl)) (rm_values l Z a0 hw hEL n0 va kv c0 c1 c2 c3 m0 m1 m2 m3 oe _ hE hO hB) rfl rfl (by simp) (by decide) (by decide) (by decide) (by decide) rfl fun v_ h39 P40 sz41 => ?_
  obtain ⟨r, kc, rfl, E1, A1⟩ := P40
  replace K := K.ext E1
  replace Ss := Ss.ext E1
  refine at' (ce' := 1) (sl' := 4) (pc' := 7) (L' := #[.val (.ref s), .val (.ref oe), .unset, .unset, .unset, .unset]) (S' := [(.ref r)]) rfl rfl rfl rfl rfl ?_
  refine astoreN (pc' := 8) (L' := #[.val (.ref s), .val (.ref oe), .val (.ref r), .unset, .unset, .unset]) d_prog_31_method_6_7 rfl rfl rfl ?_
  refine aloadN (pc' := 9) d_prog_31_method_6_8 rfl rfl rfl ?_
  refine arraylength (pc' := 10) d_prog_31_method_6_9 A1 rfl ?_
  refine istoreN (pc' := 11) (L' := #[.val (.ref s), .val (.ref oe), .val (.ref r), .val (.int (4 : Int32)), .unset, .unset]) d_prog_31_method_6_10 rfl rfl ?_
  refine iconst (pc' := 12) (v := (0 : Int32)) d_prog_31_method_6_11 rfl rfl ?_
  refine istore (pc' := 14) (L' := #[.val (.ref s), .val (.ref oe), .val (.ref r), .val (.int (4 : Int32)), .val (.int (0 : Int32)), .unset]) d_prog_31_method_6_12 rfl rfl ?_
  refine iload (pc' := 16) d_prog_31_method_6_14 rfl rfl ?_
  refine iloadN (pc' := 17) d_prog_31_method_6_16 rfl rfl ?_
  refine icmpF (pc' := 20) d_prog_31_method_6_17 (by decide : (0 : Int32) < (4 : Int32)) rfl ?_
  refine aloadN (pc' := 21) d_prog_31_method_6_20 rfl rfl rfl ?_
  refine iload (pc' := 23) d_prog_31_method_6_21 rfl rfl ?_
  refine aaload (pc' := 24) (v := .ref c0) d_prog_31_method_6_23 rfl A1 ⟨by decide, by decide⟩ rfl rfl ?_
  refine astore (pc' := 26) (L' := #[.val (.ref s), .val (.ref oe), .val (.ref r), .val (.int (4 : Int32)), .val (.int (0 : Int32)), .val (.ref c0)]) d_prog_31_method_6_24 rfl rfl rfl ?_
  refine aload (pc' := 28) d_prog_31_method_6_26 rfl rfl rfl ?_
  refine old fun O0 _ => ?_
  refine getfield (i := 111) (pc' := 31) d_prog_31_method_6_28 rfl (hE.2.2.2.1.2.2.1.ext O0.2) rfl ?_
  refine aloadN (pc' := 32) d_prog_31_method_6_31 rfl rfl rfl ?_
  refine strEq (i := 2) (Wd := 0) (pc' := 35) hB (by decide +kernel) rfl (kVirt (i := 113) (i2 := 74) (i3 := 76) (i4 := 75) (C := "java/lang/String") (a := m0) (argsL := [(.ref s)]) (S' := []) (Wd := 0) d_prog_31_method_6_32 rfl rfl rfl rfl (hE.2.2.2.1.2.2.2.ext O0.2).exa (by decide) rfl pd_5 rfl rfl (Nat.le_of_ble_eq_true rfl)) (hE.2.2.2.1.2.2.2.ext O0.2) Ss (by decide) (by decide) (by decide) (by decide) rfl fun b0 q0 => ?_
  obtain rfl : b0 = 0 := by rcases q0 with ⟨r, q⟩ | ⟨r, q⟩ <;> rw [hcs] at q <;> first | exact r | exact absurd q (by decide) | exact absurd rfl q
  refine ifT (pc' := 44) d_prog_31_method_6_35 (rfl : (0 : Int32) = (0 : Int32)) (by decide) rfl ?_
  refine iinc (pc' := 47) (v := (1 : Int32)) (L' := #[.val (.ref s), .val (.ref oe), .val (.ref r), .val (.int (4 : Int32)), .val (.int (1 : Int32)), .val (.ref c0)]) d_prog_31_method_6_44 rfl rfl rfl rfl ?_
  refine goto (pc' := 14) d_prog_31_method_6_47 (by decide) rfl ?_
  refine iload (pc' := 16) d_prog_31_method_6_14 rfl rfl ?_
  refine iloadN (pc' := 17) d_prog_31_method_6_16 rfl rfl ?_
  refine icmpF (pc' := 20) d_prog_31_method_6_17 (by decide : (1 : Int32) < (4 : Int32)) rfl ?_
  refine aloadN (pc' := 21) d_prog_31_method_6_20 rfl rfl rfl ?_
  refine iload (pc' := 23) d_prog_31_method_6_21 rfl rfl ?_
  refine aaload (pc' := 24) (v := .ref c1) d_prog_31_method_6_23 rfl A1 ⟨by decide, by decide⟩ rfl rfl ?_
  refine astore (pc' := 26) (L' := #[.val (.ref s), .val (.ref oe), .val (.ref r), .val (.int (4 : Int32)), .val (.int (1 : Int32)), .val (.ref c1)]) d_prog_31_method_6_24 rfl rfl rfl ?_
  refine aload (pc' := 28) d_prog_31_method_6_26 rfl rfl rfl ?_
  refine old fun O1 _ => ?_
  refine getfield (i := 111) (pc' := 31) d_prog_31_method_6_28 rfl (hE.2.2.2.2.1.2.2.1.ext O1.2) rfl ?_
  refine aloadN (pc' := 32) d_prog_31_method_6_31 rfl rfl rfl ?_
  refine strEq (i := 2) (Wd := 0) (pc' := 35) hB (by decide +kernel) rfl (kVirt (i := 113) (i2 := 74) (i3 := 76) (i4 := 75) (C := "java/lang/String") (a := m1) (argsL := [(.ref s)]) (S' := []) (Wd := 0) d_prog_31_method_6_32 rfl rfl rfl rfl (hE.2.2.2.2.1.2.2.2.ext O1.2).exa (by decide) rfl pd_5 rfl rfl (Nat.le_of_ble_eq_true rfl)) (hE.2.2.2.2.1.2.2.2.ext O1.2) Ss (by decide) (by decide) (by decide) (by decide) rfl fun b1 q1 => ?_
  obtain rfl : b1 = 1 := by rcases q1 with ⟨r, q⟩ | ⟨r, q⟩ <;> rw [hcs] at q <;> first | exact r | exact absurd q (by decide) | exact absurd rfl q
  refine ifF (pc' := 38) d_prog_31_method_6_35 (by decide : ¬ ((1 : Int32) = (0 : Int32))) rfl ?_
  refine aload (pc' := 40) d_prog_31_method_6_38 rfl rfl rfl ?_
  refine call (i := 116) (i2 := 90) (Wd := 0) (pc' := 43) (kStatic (i := 114) (i2 := 115) (i3 := 90) (i4 := 116) (argsL := [(.ref c1)]) (S' := []) (Wd := 0) d_prog_31_method_6_40 rfl rfl rfl rfl (by decide) rfl pd_6 rfl rfl (Nat.le_of_ble_eq_true rfl)) (rm_of l Z a0 hw hEL n0 c1 _) rfl rfl (by simp) (by decide) (by decide) (by decide) (by decide) rfl fun v_ h42 P43 sz44 => ?_
  obtain ⟨o, rfl, X1, Eo, Fo⟩ := P43
  replace K := K.ext X1
  replace Ss := Ss.ext X1
  replace A1 := A1.ext X1
  refine at' (ce' := 2) (sl' := 5) (pc' := 43) (L' := #[.val (.ref s), .val (.ref oe), .val (.ref r), .val (.int (4 : Int32)), .val (.int (1 : Int32)), .val (.ref c1)]) (S' := [(.ref o)]) rfl rfl rfl rfl rfl ?_
  refine astoreN (pc' := 44) (L' := #[.val (.ref s), .val (.ref o), .val (.ref r), .val (.int (4 : Int32)), .val (.int (1 : Int32)), .val (.ref c1)]) d_prog_31_method_6_43 rfl rfl rfl ?_
  refine iinc (pc' := 47) (v := (2 : Int32)) (L' := #[.val (.ref s), .val (.ref o), .val (.ref r), .val (.int (4 : Int32)), .val (.int (2 : Int32)), .val (.ref c1)]) d_prog_31_method_6_44 rfl rfl rfl rfl ?_
  refine goto (pc' := 14) d_prog_31_method_6_47 (by decide) rfl ?_
  refine iload (pc' := 16) d_prog_31_method_6_14 rfl rfl ?_
  refine iloadN (pc' := 17) d_prog_31_method_6_16 rfl rfl ?_
  refine icmpF (pc' := 20) d_prog_31_method_6_17 (by decide : (2 : Int32) < (4 : Int32)) rfl ?_
  refine aloadN (pc' := 21) d_prog_31_method_6_20 rfl rfl rfl ?_
  refine iload (pc' := 23) d_prog_31_method_6_21 rfl rfl ?_
  refine aaload (pc' := 24) (v := .ref c2) d_prog_31_method_6_23 rfl A1 ⟨by decide, by decide⟩ rfl rfl ?_
  refine astore (pc' := 26) (L' := #[.val (.ref s), .val (.ref o), .val (.ref r), .val (.int (4 : Int32)), .val (.int (2 : Int32)), .val (.ref c2)]) d_prog_31_method_6_24 rfl rfl rfl ?_
  refine aload (pc' := 28) d_prog_31_method_6_26 rfl rfl rfl ?_
  refine old fun O2 _ => ?_
  refine getfield (i := 111) (pc' := 31) d_prog_31_method_6_28 rfl (hE.2.2.2.2.2.1.2.2.1.ext O2.2) rfl ?_
  refine aloadN (pc' := 32) d_prog_31_method_6_31 rfl rfl rfl ?_
  refine strEq (i := 2) (Wd := 0) (pc' := 35) hB (by decide +kernel) rfl (kVirt (i := 113) (i2 := 74) (i3 := 76) (i4 := 75) (C := "java/lang/String") (a := m2) (argsL := [(.ref s)]) (S' := []) (Wd := 0) d_prog_31_method_6_32 rfl rfl rfl rfl (hE.2.2.2.2.2.1.2.2.2.ext O2.2).exa (by decide) rfl pd_5 rfl rfl (Nat.le_of_ble_eq_true rfl)) (hE.2.2.2.2.2.1.2.2.2.ext O2.2) Ss (by decide) (by decide) (by decide) (by decide) rfl fun b2 q2 => ?_
  obtain rfl : b2 = 0 := by rcases q2 with ⟨r, q⟩ | ⟨r, q⟩ <;> rw [hcs] at q <;> first | exact r | exact absurd q (by decide) | exact absurd rfl q
  refine ifT (pc' := 44) d_prog_31_method_6_35 (rfl : (0 : Int32) = (0 : Int32)) (by decide) rfl ?_
  refine iinc (pc' := 47) (v := (3 : Int32)) (L' := #[.val (.ref s), .val (.ref o), .val (.ref r), .val (.int (4 : Int32)), .val (.int (3 : Int32)), .val (.ref c2)]) d_prog_31_method_6_44 rfl rfl rfl rfl ?_
  refine goto (pc' := 14) d_prog_31_method_6_47 (by decide) rfl ?_
  refine iload (pc' := 16) d_prog_31_method_6_14 rfl rfl ?_
  refine iloadN (pc' := 17) d_prog_31_method_6_16 rfl rfl ?_
  refine icmpF (pc' := 20) d_prog_31_method_6_17 (by decide : (3 : Int32) < (4 : Int32)) rfl ?_
  refine aloadN (pc' := 21) d_prog_31_method_6_20 rfl rfl rfl ?_
  refine iload (pc' := 23) d_prog_31_method_6_21 rfl rfl ?_
  refine aaload (pc' := 24) (v := .ref c3) d_prog_31_method_6_23 rfl A1 ⟨by decide, by decide⟩ rfl rfl ?_
  refine astore (pc' := 26) (L' := #[.val (.ref s), .val (.ref o), .val (.ref r), .val (.int (4 : Int32)), .val (.int (3 : Int32)), .val (.ref c3)]) d_prog_31_method_6_24 rfl rfl rfl ?_
  refine aload (pc' := 28) d_prog_31_method_6_26 rfl rfl rfl ?_
  refine old fun O3 _ => ?_
  refine getfield (i := 111) (pc' := 31) d_prog_31_method_6_28 rfl (hE.2.2.2.2.2.2.2.2.1.ext O3.2) rfl ?_
  refine aloadN (pc' := 32) d_prog_31_method_6_31 rfl rfl rfl ?_
  refine strEq (i := 2) (Wd := 0) (pc' := 35) hB (by decide +kernel) rfl (kVirt (i := 113) (i2 := 74) (i3 := 76) (i4 := 75) (C := "java/lang/String") (a := m3) (argsL := [(.ref s)]) (S' := []) (Wd := 0) d_prog_31_method_6_32 rfl rfl rfl rfl (hE.2.2.2.2.2.2.2.2.2.ext O3.2).exa (by decide) rfl pd_5 rfl rfl (Nat.le_of_ble_eq_true rfl)) (hE.2.2.2.2.2.2.2.2.2.ext O3.2) Ss (by decide) (by decide) (by decide) (by decide) rfl fun b3 q3 => ?_
  obtain rfl : b3 = 0 := by rcases q3 with ⟨r, q⟩ | ⟨r, q⟩ <;> rw [hcs] at q <;> first | exact r | exact absurd q (by decide) | exact absurd rfl q
  refine ifT (pc' := 44) d_prog_31_method_6_35 (rfl : (0 : Int32) = (0 : Int32)) (by decide) rfl ?_
  refine iinc (pc' := 47) (v := (4 : Int32)) (L' := #[.val (.ref s), .val (.ref o), .val (.ref r), .val (.int (4 : Int32)), .val (.int (4 : Int32)), .val (.ref c3)]) d_prog_31_method_6_44 rfl rfl rfl rfl ?_
  refine goto (pc' := 14) d_prog_31_method_6_47 (by decide) rfl ?_
  refine iload (pc' := 16) d_prog_31_method_6_14 rfl rfl ?_
  refine iloadN (pc' := 17) d_prog_31_method_6_16 rfl rfl ?_
  refine icmpT (pc' := 50) d_prog_31_method_6_17 (by decide : ¬ ((4 : Int32) < (4 : Int32))) (by decide) rfl ?_
  refine aloadN (pc' := 51) d_prog_31_method_6_50 rfl rfl rfl ?_
  exact retA d_prog_31_method_6_51 rfl rfl rfl (by decide) (by decide) ⟨o, rfl, keepExt K, Eo, Fo⟩
set_option maxRecDepth 65536 in
set_option maxHeartbeats 40000000 in
theorem rm_named2 (l : Launch) (Z : State) (a0 : Array Value) (hw : ∀ d ∈ tables_1, d.before a0 Z = true) (hEL : EW Z a0 consts_1) (n0 : Nat) (va : Addr) (kv : ClassId) (c0 c1 c2 c3 m0 m1 m2 m3 oe : Addr) (s : Addr) (cs : List Int32) (h : Heap) (Ss : Str Z h s cs) (hE : En Z va kv c0 c1 c2 c3 m0 m1 m2 m3) (hO : Oe Z oe) (hB : Sets Z) (hcs : cs = ([115, 105, 109, 112, 108, 101] : List Int32)) :
    Met l false Z consts_1 n0 (⟨"com/example/contesta/contesta/rank/Model", "named", "(Ljava/lang/String;)Ljava/util/Optional;"⟩ : MethodName) prog_31_method_6_code 6 (some (.object "java/util/Optional")) ({ frames := 3, cells := 2, slots := 5, locals := 45 } : Room) [] #[(.ref s)] [] h (fun v h' => ∃ a, v = some (.ref a) ∧ Ext h h' ∧ Exa Z h' a "java/util/Optional" ∧ Fld Z h' a "java/util/Optional" "value" "Ljava/lang/Object;" (.ref c2)) := by
  refine Met.of_body (a0 := a0) (L0 := #[.val (.ref s), .unset, .unset, .unset, .unset, .unset]) (plainFor_of_name (by first | (simp [plainName, overriddenIn]; done) | decide +kernel)) (fun m => by first | rfl | (simp [entryFrame, mkF, argsToLocals, Value.category]; done)) hw hEL (by decide) ?_
  have K : Keep h h [] := Keep.refl _ _
  refine call (i := 91) (i2 := 90) (Wd := 0) (pc' := 3) (kStatic (i := 88) (i2 := 89) (i3 := 90) (i4 := 91) (argsL := []) (S' := []) (Wd := 0) d_prog_31_method_6_0 rfl rfl rfl rfl (by decide) rfl pd_3 rfl rfl (Nat.le_of_ble_eq_true rfl)) (rm_empty l Z a0 hw hEL n0 va kv c0 c1 c2 c3 m0 m1 m2 m3 oe _ hE hO hB) rfl rfl (by simp) (by decide) (by decide) (by decide) (by decide) rfl fun v_ h45 P46 sz47 => ?_
  obtain ⟨rfl, e48⟩ := P46
  rw [e48]
  refine at' (ce' := 0) (sl' := 0) (pc' := 3) (L' := #[.val (.ref s), .unset, .unset, .unset, .unset, .unset]) (S' := [(.ref oe)]) rfl rfl rfl rfl rfl ?_
  refine astoreN (pc' := 4) (L' := #[.val (.ref s), .val (.ref oe), .unset, .unset, .unset, .unset]) d_prog_31_method_6_3 rfl rfl rfl ?_
  refine call (i := 95) (i2 := 83) (Wd := 0) (pc' := 7) (kStatic (i := 93) (i2 := 94) (i3 := 83) (i4 := 95) (argsL := []) (S' := []) (Wd := 0) d_prog_31_method_6_4 rfl rfl rfl rfl (by decide) rfl pd_4 rfl rfl (Nat.le_of_ble_eq_true rfl)) (rm_values l Z a0 hw hEL n0 va kv c0 c1 c2 c3 m0 m1 m2 m3 oe _ hE hO hB) rfl rfl (by simp) (by decide) (by decide) (by decide) (by decide) rfl fun v_ h49 P50 sz51 => ?_
  obtain ⟨r, kc, rfl, E1, A1⟩ := P50
  replace K := K.ext E1
  replace Ss := Ss.ext E1
  refine at' (ce' := 1) (sl' := 4) (pc' := 7) (L' := #[.val (.ref s), .val (.ref oe), .unset, .unset, .unset, .unset]) (S' := [(.ref r)]) rfl rfl rfl rfl rfl ?_
  refine astoreN (pc' := 8) (L' := #[.val (.ref s), .val (.ref oe), .val (.ref r), .unset, .unset, .unset]) d_prog_31_method_6_7 rfl rfl rfl ?_
  refine aloadN (pc' := 9) d_prog_31_method_6_8 rfl rfl rfl ?_
  refine arraylength (pc' := 10) d_prog_31_method_6_9 A1 rfl ?_
  refine istoreN (pc' := 11) (L' := #[.val (.ref s), .val (.ref oe), .val (.ref r), .val (.int (4 : Int32)), .unset, .unset]) d_prog_31_method_6_10 rfl rfl ?_
  refine iconst (pc' := 12) (v := (0 : Int32)) d_prog_31_method_6_11 rfl rfl ?_
  refine istore (pc' := 14) (L' := #[.val (.ref s), .val (.ref oe), .val (.ref r), .val (.int (4 : Int32)), .val (.int (0 : Int32)), .unset]) d_prog_31_method_6_12 rfl rfl ?_
  refine iload (pc' := 16) d_prog_31_method_6_14 rfl rfl ?_
  refine iloadN (pc' := 17) d_prog_31_method_6_16 rfl rfl ?_
  refine icmpF (pc' := 20) d_prog_31_method_6_17 (by decide : (0 : Int32) < (4 : Int32)) rfl ?_
  refine aloadN (pc' := 21) d_prog_31_method_6_20 rfl rfl rfl ?_
  refine iload (pc' := 23) d_prog_31_method_6_21 rfl rfl ?_
  refine aaload (pc' := 24) (v := .ref c0) d_prog_31_method_6_23 rfl A1 ⟨by decide, by decide⟩ rfl rfl ?_
  refine astore (pc' := 26) (L' := #[.val (.ref s), .val (.ref oe), .val (.ref r), .val (.int (4 : Int32)), .val (.int (0 : Int32)), .val (.ref c0)]) d_prog_31_method_6_24 rfl rfl rfl ?_
  refine aload (pc' := 28) d_prog_31_method_6_26 rfl rfl rfl ?_
  refine old fun O0 _ => ?_
  refine getfield (i := 111) (pc' := 31) d_prog_31_method_6_28 rfl (hE.2.2.2.1.2.2.1.ext O0.2) rfl ?_
  refine aloadN (pc' := 32) d_prog_31_method_6_31 rfl rfl rfl ?_
  refine strEq (i := 2) (Wd := 0) (pc' := 35) hB (by decide +kernel) rfl (kVirt (i := 113) (i2 := 74) (i3 := 76) (i4 := 75) (C := "java/lang/String") (a := m0) (argsL := [(.ref s)]) (S' := []) (Wd := 0) d_prog_31_method_6_32 rfl rfl rfl rfl (hE.2.2.2.1.2.2.2.ext O0.2).exa (by decide) rfl pd_5 rfl rfl (Nat.le_of_ble_eq_true rfl)) (hE.2.2.2.1.2.2.2.ext O0.2) Ss (by decide) (by decide) (by decide) (by decide) rfl fun b0 q0 => ?_
  obtain rfl : b0 = 0 := by rcases q0 with ⟨r, q⟩ | ⟨r, q⟩ <;> rw [hcs] at q <;> first | exact r | exact absurd q (by decide) | exact absurd rfl q
  refine ifT (pc' := 44) d_prog_31_method_6_35 (rfl : (0 : Int32) = (0 : Int32)) (by decide) rfl ?_
  refine iinc (pc' := 47) (v := (1 : Int32)) (L' := #[.val (.ref s), .val (.ref oe), .val (.ref r), .val (.int (4 : Int32)), .val (.int (1 : Int32)), .val (.ref c0)]) d_prog_31_method_6_44 rfl rfl rfl rfl ?_
  refine goto (pc' := 14) d_prog_31_method_6_47 (by decide) rfl ?_
  refine iload (pc' := 16) d_prog_31_method_6_14 rfl rfl ?_
  refine iloadN (pc' := 17) d_prog_31_method_6_16 rfl rfl ?_
  refine icmpF (pc' := 20) d_prog_31_method_6_17 (by decide : (1 : Int32) < (4 : Int32)) rfl ?_
  refine aloadN (pc' := 21) d_prog_31_method_6_20 rfl rfl rfl ?_
  refine iload (pc' := 23) d_prog_31_method_6_21 rfl rfl ?_
  refine aaload (pc' := 24) (v := .ref c1) d_prog_31_method_6_23 rfl A1 ⟨by decide, by decide⟩ rfl rfl ?_
  refine astore (pc' := 26) (L' := #[.val (.ref s), .val (.ref oe), .val (.ref r), .val (.int (4 : Int32)), .val (.int (1 : Int32)), .val (.ref c1)]) d_prog_31_method_6_24 rfl rfl rfl ?_
  refine aload (pc' := 28) d_prog_31_method_6_26 rfl rfl rfl ?_
  refine old fun O1 _ => ?_
  refine getfield (i := 111) (pc' := 31) d_prog_31_method_6_28 rfl (hE.2.2.2.2.1.2.2.1.ext O1.2) rfl ?_
  refine aloadN (pc' := 32) d_prog_31_method_6_31 rfl rfl rfl ?_
  refine strEq (i := 2) (Wd := 0) (pc' := 35) hB (by decide +kernel) rfl (kVirt (i := 113) (i2 := 74) (i3 := 76) (i4 := 75) (C := "java/lang/String") (a := m1) (argsL := [(.ref s)]) (S' := []) (Wd := 0) d_prog_31_method_6_32 rfl rfl rfl rfl (hE.2.2.2.2.1.2.2.2.ext O1.2).exa (by decide) rfl pd_5 rfl rfl (Nat.le_of_ble_eq_true rfl)) (hE.2.2.2.2.1.2.2.2.ext O1.2) Ss (by decide) (by decide) (by decide) (by decide) rfl fun b1 q1 => ?_
  obtain rfl : b1 = 0 := by rcases q1 with ⟨r, q⟩ | ⟨r, q⟩ <;> rw [hcs] at q <;> first | exact r | exact absurd q (by decide) | exact absurd rfl q
  refine ifT (pc' := 44) d_prog_31_method_6_35 (rfl : (0 : Int32) = (0 : Int32)) (by decide) rfl ?_
  refine iinc (pc' := 47) (v := (2 : Int32)) (L' := #[.val (.ref s), .val (.ref oe), .val (.ref r), .val (.int (4 : Int32)), .val (.int (2 : Int32)), .val (.ref c1)]) d_prog_31_method_6_44 rfl rfl rfl rfl ?_
  refine goto (pc' := 14) d_prog_31_method_6_47 (by decide) rfl ?_
  refine iload (pc' := 16) d_prog_31_method_6_14 rfl rfl ?_
  refine iloadN (pc' := 17) d_prog_31_method_6_16 rfl rfl ?_
  refine icmpF (pc' := 20) d_prog_31_method_6_17 (by decide : (2 : Int32) < (4 : Int32)) rfl ?_
  refine aloadN (pc' := 21) d_prog_31_method_6_20 rfl rfl rfl ?_
  refine iload (pc' := 23) d_prog_31_method_6_21 rfl rfl ?_
  refine aaload (pc' := 24) (v := .ref c2) d_prog_31_method_6_23 rfl A1 ⟨by decide, by decide⟩ rfl rfl ?_
  refine astore (pc' := 26) (L' := #[.val (.ref s), .val (.ref oe), .val (.ref r), .val (.int (4 : Int32)), .val (.int (2 : Int32)), .val (.ref c2)]) d_prog_31_method_6_24 rfl rfl rfl ?_
  refine aload (pc' := 28) d_prog_31_method_6_26 rfl rfl rfl ?_
  refine old fun O2 _ => ?_
  refine getfield (i := 111) (pc' := 31) d_prog_31_method_6_28 rfl (hE.2.2.2.2.2.1.2.2.1.ext O2.2) rfl ?_
  refine aloadN (pc' := 32) d_prog_31_method_6_31 rfl rfl rfl ?_
  refine strEq (i := 2) (Wd := 0) (pc' := 35) hB (by decide +kernel) rfl (kVirt (i := 113) (i2 := 74) (i3 := 76) (i4 := 75) (C := "java/lang/String") (a := m2) (argsL := [(.ref s)]) (S' := []) (Wd := 0) d_prog_31_method_6_32 rfl rfl rfl rfl (hE.2.2.2.2.2.1.2.2.2.ext O2.2).exa (by decide) rfl pd_5 rfl rfl (Nat.le_of_ble_eq_true rfl)) (hE.2.2.2.2.2.1.2.2.2.ext O2.2) Ss (by decide) (by decide) (by decide) (by decide) rfl fun b2 q2 => ?_
  obtain rfl : b2 = 1 := by rcases q2 with ⟨r, q⟩ | ⟨r, q⟩ <;> rw [hcs] at q <;> first | exact r | exact absurd q (by decide) | exact absurd rfl q
  refine ifF (pc' := 38) d_prog_31_method_6_35 (by decide : ¬ ((1 : Int32) = (0 : Int32))) rfl ?_
  refine aload (pc' := 40) d_prog_31_method_6_38 rfl rfl rfl ?_
  refine call (i := 116) (i2 := 90) (Wd := 0) (pc' := 43) (kStatic (i := 114) (i2 := 115) (i3 := 90) (i4 := 116) (argsL := [(.ref c2)]) (S' := []) (Wd := 0) d_prog_31_method_6_40 rfl rfl rfl rfl (by decide) rfl pd_6 rfl rfl (Nat.le_of_ble_eq_true rfl)) (rm_of l Z a0 hw hEL n0 c2 _) rfl rfl (by simp) (by decide) (by decide) (by decide) (by decide) rfl fun v_ h52 P53 sz54 => ?_
  obtain ⟨o, rfl, X1, Eo, Fo⟩ := P53
  replace K := K.ext X1
  replace Ss := Ss.ext X1
  replace A1 := A1.ext X1
  refine at' (ce' := 2) (sl' := 5) (pc' := 43) (L' := #[.val (.ref s), .val (.ref oe), .val (.ref r), .val (.int (4 : Int32)), .val (.int (2 : Int32)), .val (.ref c2)]) (S' := [(.ref o)]) rfl rfl rfl rfl rfl ?_
  refine astoreN (pc' := 44) (L' := #[.val (.ref s), .val (.ref o), .val (.ref r), .val (.int (4 : Int32)), .val (.int (2 : Int32)), .val (.ref c2)]) d_prog_31_method_6_43 rfl rfl rfl ?_
  refine iinc (pc' := 47) (v := (3 : Int32)) (L' := #[.val (.ref s), .val (.ref o), .val (.ref r), .val (.int (4 : Int32)), .val (.int (3 : Int32)), .val (.ref c2)]) d_prog_31_method_6_44 rfl rfl rfl rfl ?_
  refine goto (pc' := 14) d_prog_31_method_6_47 (by decide) rfl ?_
  refine iload (pc' := 16) d_prog_31_method_6_14 rfl rfl ?_
  refine iloadN (pc' := 17) d_prog_31_method_6_16 rfl rfl ?_
  refine icmpF (pc' := 20) d_prog_31_method_6_17 (by decide : (3 : Int32) < (4 : Int32)) rfl ?_
  refine aloadN (pc' := 21) d_prog_31_method_6_20 rfl rfl rfl ?_
  refine iload (pc' := 23) d_prog_31_method_6_21 rfl rfl ?_
  refine aaload (pc' := 24) (v := .ref c3) d_prog_31_method_6_23 rfl A1 ⟨by decide, by decide⟩ rfl rfl ?_
  refine astore (pc' := 26) (L' := #[.val (.ref s), .val (.ref o), .val (.ref r), .val (.int (4 : Int32)), .val (.int (3 : Int32)), .val (.ref c3)]) d_prog_31_method_6_24 rfl rfl rfl ?_
  refine aload (pc' := 28) d_prog_31_method_6_26 rfl rfl rfl ?_
  refine old fun O3 _ => ?_
  refine getfield (i := 111) (pc' := 31) d_prog_31_method_6_28 rfl (hE.2.2.2.2.2.2.2.2.1.ext O3.2) rfl ?_
  refine aloadN (pc' := 32) d_prog_31_method_6_31 rfl rfl rfl ?_
  refine strEq (i := 2) (Wd := 0) (pc' := 35) hB (by decide +kernel) rfl (kVirt (i := 113) (i2 := 74) (i3 := 76) (i4 := 75) (C := "java/lang/String") (a := m3) (argsL := [(.ref s)]) (S' := []) (Wd := 0) d_prog_31_method_6_32 rfl rfl rfl rfl (hE.2.2.2.2.2.2.2.2.2.ext O3.2).exa (by decide) rfl pd_5 rfl rfl (Nat.le_of_ble_eq_true rfl)) (hE.2.2.2.2.2.2.2.2.2.ext O3.2) Ss (by decide) (by decide) (by decide) (by decide) rfl fun b3 q3 => ?_
  obtain rfl : b3 = 0 := by rcases q3 with ⟨r, q⟩ | ⟨r, q⟩ <;> rw [hcs] at q <;> first | exact r | exact absurd q (by decide) | exact absurd rfl q
  refine ifT (pc' := 44) d_prog_31_method_6_35 (rfl : (0 : Int32) = (0 : Int32)) (by decide) rfl ?_
  refine iinc (pc' := 47) (v := (4 : Int32)) (L' := #[.val (.ref s), .val (.ref o), .val (.ref r), .val (.int (4 : Int32)), .val (.int (4 : Int32)), .val (.ref c3)]) d_prog_31_method_6_44 rfl rfl rfl rfl ?_
  refine goto (pc' := 14) d_prog_31_method_6_47 (by decide) rfl ?_
  refine iload (pc' := 16) d_prog_31_method_6_14 rfl rfl ?_
  refine iloadN (pc' := 17) d_prog_31_method_6_16 rfl rfl ?_
  refine icmpT (pc' := 50) d_prog_31_method_6_17 (by decide : ¬ ((4 : Int32) < (4 : Int32))) (by decide) rfl ?_
  refine aloadN (pc' := 51) d_prog_31_method_6_50 rfl rfl rfl ?_
  exact retA d_prog_31_method_6_51 rfl rfl rfl (by decide) (by decide) ⟨o, rfl, keepExt K, Eo, Fo⟩
set_option maxRecDepth 65536 in
set_option maxHeartbeats 40000000 in
theorem rm_named3 (l : Launch) (Z : State) (a0 : Array Value) (hw : ∀ d ∈ tables_1, d.before a0 Z = true) (hEL : EW Z a0 consts_1) (n0 : Nat) (va : Addr) (kv : ClassId) (c0 c1 c2 c3 m0 m1 m2 m3 oe : Addr) (s : Addr) (cs : List Int32) (h : Heap) (Ss : Str Z h s cs) (hE : En Z va kv c0 c1 c2 c3 m0 m1 m2 m3) (hO : Oe Z oe) (hB : Sets Z) (hcs : cs = ([116, 101, 114, 109, 119, 101, 105, 103, 104, 116] : List Int32)) :
    Met l false Z consts_1 n0 (⟨"com/example/contesta/contesta/rank/Model", "named", "(Ljava/lang/String;)Ljava/util/Optional;"⟩ : MethodName) prog_31_method_6_code 6 (some (.object "java/util/Optional")) ({ frames := 3, cells := 2, slots := 5, locals := 45 } : Room) [] #[(.ref s)] [] h (fun v h' => ∃ a, v = some (.ref a) ∧ Ext h h' ∧ Exa Z h' a "java/util/Optional" ∧ Fld Z h' a "java/util/Optional" "value" "Ljava/lang/Object;" (.ref c3)) := by
  refine Met.of_body (a0 := a0) (L0 := #[.val (.ref s), .unset, .unset, .unset, .unset, .unset]) (plainFor_of_name (by first | (simp [plainName, overriddenIn]; done) | decide +kernel)) (fun m => by first | rfl | (simp [entryFrame, mkF, argsToLocals, Value.category]; done)) hw hEL (by decide) ?_
  have K : Keep h h [] := Keep.refl _ _
  refine call (i := 91) (i2 := 90) (Wd := 0) (pc' := 3) (kStatic (i := 88) (i2 := 89) (i3 := 90) (i4 := 91) (argsL := []) (S' := []) (Wd := 0) d_prog_31_method_6_0 rfl rfl rfl rfl (by decide) rfl pd_3 rfl rfl (Nat.le_of_ble_eq_true rfl)) (rm_empty l Z a0 hw hEL n0 va kv c0 c1 c2 c3 m0 m1 m2 m3 oe _ hE hO hB) rfl rfl (by simp) (by decide) (by decide) (by decide) (by decide) rfl fun v_ h55 P56 sz57 => ?_
  obtain ⟨rfl, e58⟩ := P56
  rw [e58]
  refine at' (ce' := 0) (sl' := 0) (pc' := 3) (L' := #[.val (.ref s), .unset, .unset, .unset, .unset, .unset]) (S' := [(.ref oe)]) rfl rfl rfl rfl rfl ?_
  refine astoreN (pc' := 4) (L' := #[.val (.ref s), .val (.ref oe), .unset, .unset, .unset, .unset]) d_prog_31_method_6_3 rfl rfl rfl ?_
  refine call (i := 95) (i2 := 83) (Wd := 0) (pc' := 7) (kStatic (i := 93) (i2 := 94) (i3 := 83) (i4 := 95) (argsL := []) (S' := []) (Wd := 0) d_prog_31_method_6_4 rfl rfl rfl rfl (by decide) rfl pd_4 rfl rfl (Nat.le_of_ble_eq_true rfl)) (rm_values l Z a0 hw hEL n0 va kv c0 c1 c2 c3 m0 m1 m2 m3 oe _ hE hO hB) rfl rfl (by simp) (by decide) (by decide) (by decide) (by decide) rfl fun v_ h59 P60 sz61 => ?_
  obtain ⟨r, kc, rfl, E1, A1⟩ := P60
  replace K := K.ext E1
  replace Ss := Ss.ext E1
  refine at' (ce' := 1) (sl' := 4) (pc' := 7) (L' := #[.val (.ref s), .val (.ref oe), .unset, .unset, .unset, .unset]) (S' := [(.ref r)]) rfl rfl rfl rfl rfl ?_
  refine astoreN (pc' := 8) (L' := #[.val (.ref s), .val (.ref oe), .val (.ref r), .unset, .unset, .unset]) d_prog_31_method_6_7 rfl rfl rfl ?_
  refine aloadN (pc' := 9) d_prog_31_method_6_8 rfl rfl rfl ?_
  refine arraylength (pc' := 10) d_prog_31_method_6_9 A1 rfl ?_
  refine istoreN (pc' := 11) (L' := #[.val (.ref s), .val (.ref oe), .val (.ref r), .val (.int (4 : Int32)), .unset, .unset]) d_prog_31_method_6_10 rfl rfl ?_
  refine iconst (pc' := 12) (v := (0 : Int32)) d_prog_31_method_6_11 rfl rfl ?_
  refine istore (pc' := 14) (L' := #[.val (.ref s), .val (.ref oe), .val (.ref r), .val (.int (4 : Int32)), .val (.int (0 : Int32)), .unset]) d_prog_31_method_6_12 rfl rfl ?_
  refine iload (pc' := 16) d_prog_31_method_6_14 rfl rfl ?_
  refine iloadN (pc' := 17) d_prog_31_method_6_16 rfl rfl ?_
  refine icmpF (pc' := 20) d_prog_31_method_6_17 (by decide : (0 : Int32) < (4 : Int32)) rfl ?_
  refine aloadN (pc' := 21) d_prog_31_method_6_20 rfl rfl rfl ?_
  refine iload (pc' := 23) d_prog_31_method_6_21 rfl rfl ?_
  refine aaload (pc' := 24) (v := .ref c0) d_prog_31_method_6_23 rfl A1 ⟨by decide, by decide⟩ rfl rfl ?_
  refine astore (pc' := 26) (L' := #[.val (.ref s), .val (.ref oe), .val (.ref r), .val (.int (4 : Int32)), .val (.int (0 : Int32)), .val (.ref c0)]) d_prog_31_method_6_24 rfl rfl rfl ?_
  refine aload (pc' := 28) d_prog_31_method_6_26 rfl rfl rfl ?_
  refine old fun O0 _ => ?_
  refine getfield (i := 111) (pc' := 31) d_prog_31_method_6_28 rfl (hE.2.2.2.1.2.2.1.ext O0.2) rfl ?_
  refine aloadN (pc' := 32) d_prog_31_method_6_31 rfl rfl rfl ?_
  refine strEq (i := 2) (Wd := 0) (pc' := 35) hB (by decide +kernel) rfl (kVirt (i := 113) (i2 := 74) (i3 := 76) (i4 := 75) (C := "java/lang/String") (a := m0) (argsL := [(.ref s)]) (S' := []) (Wd := 0) d_prog_31_method_6_32 rfl rfl rfl rfl (hE.2.2.2.1.2.2.2.ext O0.2).exa (by decide) rfl pd_5 rfl rfl (Nat.le_of_ble_eq_true rfl)) (hE.2.2.2.1.2.2.2.ext O0.2) Ss (by decide) (by decide) (by decide) (by decide) rfl fun b0 q0 => ?_
  obtain rfl : b0 = 0 := by rcases q0 with ⟨r, q⟩ | ⟨r, q⟩ <;> rw [hcs] at q <;> first | exact r | exact absurd q (by decide) | exact absurd rfl q
  refine ifT (pc' := 44) d_prog_31_method_6_35 (rfl : (0 : Int32) = (0 : Int32)) (by decide) rfl ?_
  refine iinc (pc' := 47) (v := (1 : Int32)) (L' := #[.val (.ref s), .val (.ref oe), .val (.ref r), .val (.int (4 : Int32)), .val (.int (1 : Int32)), .val (.ref c0)]) d_prog_31_method_6_44 rfl rfl rfl rfl ?_
  refine goto (pc' := 14) d_prog_31_method_6_47 (by decide) rfl ?_
  refine iload (pc' := 16) d_prog_31_method_6_14 rfl rfl ?_
  refine iloadN (pc' := 17) d_prog_31_method_6_16 rfl rfl ?_
  refine icmpF (pc' := 20) d_prog_31_method_6_17 (by decide : (1 : Int32) < (4 : Int32)) rfl ?_
  refine aloadN (pc' := 21) d_prog_31_method_6_20 rfl rfl rfl ?_
  refine iload (pc' := 23) d_prog_31_method_6_21 rfl rfl ?_
  refine aaload (pc' := 24) (v := .ref c1) d_prog_31_method_6_23 rfl A1 ⟨by decide, by decide⟩ rfl rfl ?_
  refine astore (pc' := 26) (L' := #[.val (.ref s), .val (.ref oe), .val (.ref r), .val (.int (4 : Int32)), .val (.int (1 : Int32)), .val (.ref c1)]) d_prog_31_method_6_24 rfl rfl rfl ?_
  refine aload (pc' := 28) d_prog_31_method_6_26 rfl rfl rfl ?_
  refine old fun O1 _ => ?_
  refine getfield (i := 111) (pc' := 31) d_prog_31_method_6_28 rfl (hE.2.2.2.2.1.2.2.1.ext O1.2) rfl ?_
  refine aloadN (pc' := 32) d_prog_31_method_6_31 rfl rfl rfl ?_
  refine strEq (i := 2) (Wd := 0) (pc' := 35) hB (by decide +kernel) rfl (kVirt (i := 113) (i2 := 74) (i3 := 76) (i4 := 75) (C := "java/lang/String") (a := m1) (argsL := [(.ref s)]) (S' := []) (Wd := 0) d_prog_31_method_6_32 rfl rfl rfl rfl (hE.2.2.2.2.1.2.2.2.ext O1.2).exa (by decide) rfl pd_5 rfl rfl (Nat.le_of_ble_eq_true rfl)) (hE.2.2.2.2.1.2.2.2.ext O1.2) Ss (by decide) (by decide) (by decide) (by decide) rfl fun b1 q1 => ?_
  obtain rfl : b1 = 0 := by rcases q1 with ⟨r, q⟩ | ⟨r, q⟩ <;> rw [hcs] at q <;> first | exact r | exact absurd q (by decide) | exact absurd rfl q
  refine ifT (pc' := 44) d_prog_31_method_6_35 (rfl : (0 : Int32) = (0 : Int32)) (by decide) rfl ?_
  refine iinc (pc' := 47) (v := (2 : Int32)) (L' := #[.val (.ref s), .val (.ref oe), .val (.ref r), .val (.int (4 : Int32)), .val (.int (2 : Int32)), .val (.ref c1)]) d_prog_31_method_6_44 rfl rfl rfl rfl ?_
  refine goto (pc' := 14) d_prog_31_method_6_47 (by decide) rfl ?_
  refine iload (pc' := 16) d_prog_31_method_6_14 rfl rfl ?_
  refine iloadN (pc' := 17) d_prog_31_method_6_16 rfl rfl ?_
  refine icmpF (pc' := 20) d_prog_31_method_6_17 (by decide : (2 : Int32) < (4 : Int32)) rfl ?_
  refine aloadN (pc' := 21) d_prog_31_method_6_20 rfl rfl rfl ?_
  refine iload (pc' := 23) d_prog_31_method_6_21 rfl rfl ?_
  refine aaload (pc' := 24) (v := .ref c2) d_prog_31_method_6_23 rfl A1 ⟨by decide, by decide⟩ rfl rfl ?_
  refine astore (pc' := 26) (L' := #[.val (.ref s), .val (.ref oe), .val (.ref r), .val (.int (4 : Int32)), .val (.int (2 : Int32)), .val (.ref c2)]) d_prog_31_method_6_24 rfl rfl rfl ?_
  refine aload (pc' := 28) d_prog_31_method_6_26 rfl rfl rfl ?_
  refine old fun O2 _ => ?_
  refine getfield (i := 111) (pc' := 31) d_prog_31_method_6_28 rfl (hE.2.2.2.2.2.1.2.2.1.ext O2.2) rfl ?_
  refine aloadN (pc' := 32) d_prog_31_method_6_31 rfl rfl rfl ?_
  refine strEq (i := 2) (Wd := 0) (pc' := 35) hB (by decide +kernel) rfl (kVirt (i := 113) (i2 := 74) (i3 := 76) (i4 := 75) (C := "java/lang/String") (a := m2) (argsL := [(.ref s)]) (S' := []) (Wd := 0) d_prog_31_method_6_32 rfl rfl rfl rfl (hE.2.2.2.2.2.1.2.2.2.ext O2.2).exa (by decide) rfl pd_5 rfl rfl (Nat.le_of_ble_eq_true rfl)) (hE.2.2.2.2.2.1.2.2.2.ext O2.2) Ss (by decide) (by decide) (by decide) (by decide) rfl fun b2 q2 => ?_
  obtain rfl : b2 = 0 := by rcases q2 with ⟨r, q⟩ | ⟨r, q⟩ <;> rw [hcs] at q <;> first | exact r | exact absurd q (by decide) | exact absurd rfl q
  refine ifT (pc' := 44) d_prog_31_method_6_35 (rfl : (0 : Int32) = (0 : Int32)) (by decide) rfl ?_
  refine iinc (pc' := 47) (v := (3 : Int32)) (L' := #[.val (.ref s), .val (.ref oe), .val (.ref r), .val (.int (4 : Int32)), .val (.int (3 : Int32)), .val (.ref c2)]) d_prog_31_method_6_44 rfl rfl rfl rfl ?_
  refine goto (pc' := 14) d_prog_31_method_6_47 (by decide) rfl ?_
  refine iload (pc' := 16) d_prog_31_method_6_14 rfl rfl ?_
  refine iloadN (pc' := 17) d_prog_31_method_6_16 rfl rfl ?_
  refine icmpF (pc' := 20) d_prog_31_method_6_17 (by decide : (3 : Int32) < (4 : Int32)) rfl ?_
  refine aloadN (pc' := 21) d_prog_31_method_6_20 rfl rfl rfl ?_
  refine iload (pc' := 23) d_prog_31_method_6_21 rfl rfl ?_
  refine aaload (pc' := 24) (v := .ref c3) d_prog_31_method_6_23 rfl A1 ⟨by decide, by decide⟩ rfl rfl ?_
  refine astore (pc' := 26) (L' := #[.val (.ref s), .val (.ref oe), .val (.ref r), .val (.int (4 : Int32)), .val (.int (3 : Int32)), .val (.ref c3)]) d_prog_31_method_6_24 rfl rfl rfl ?_
  refine aload (pc' := 28) d_prog_31_method_6_26 rfl rfl rfl ?_
  refine old fun O3 _ => ?_
  refine getfield (i := 111) (pc' := 31) d_prog_31_method_6_28 rfl (hE.2.2.2.2.2.2.2.2.1.ext O3.2) rfl ?_
  refine aloadN (pc' := 32) d_prog_31_method_6_31 rfl rfl rfl ?_
  refine strEq (i := 2) (Wd := 0) (pc' := 35) hB (by decide +kernel) rfl (kVirt (i := 113) (i2 := 74) (i3 := 76) (i4 := 75) (C := "java/lang/String") (a := m3) (argsL := [(.ref s)]) (S' := []) (Wd := 0) d_prog_31_method_6_32 rfl rfl rfl rfl (hE.2.2.2.2.2.2.2.2.2.ext O3.2).exa (by decide) rfl pd_5 rfl rfl (Nat.le_of_ble_eq_true rfl)) (hE.2.2.2.2.2.2.2.2.2.ext O3.2) Ss (by decide) (by decide) (by decide) (by decide) rfl fun b3 q3 => ?_
  obtain rfl : b3 = 1 := by rcases q3 with ⟨r, q⟩ | ⟨r, q⟩ <;> rw [hcs] at q <;> first | exact r | exact absurd q (by decide) | exact absurd rfl q
  refine ifF (pc' := 38) d_prog_31_method_6_35 (by decide : ¬ ((1 : Int32) = (0 : Int32))) rfl ?_
  refine aload (pc' := 40) d_prog_31_method_6_38 rfl rfl rfl ?_
  refine call (i := 116) (i2 := 90) (Wd := 0) (pc' := 43) (kStatic (i := 114) (i2 := 115) (i3 := 90) (i4 := 116) (argsL := [(.ref c3)]) (S' := []) (Wd := 0) d_prog_31_method_6_40 rfl rfl rfl rfl (by decide) rfl pd_6 rfl rfl (Nat.le_of_ble_eq_true rfl)) (rm_of l Z a0 hw hEL n0 c3 _) rfl rfl (by simp) (by decide) (by decide) (by decide) (by decide) rfl fun v_ h62 P63 sz64 => ?_
  obtain ⟨o, rfl, X1, Eo, Fo⟩ := P63
  replace K := K.ext X1
  replace Ss := Ss.ext X1
  replace A1 := A1.ext X1
  refine at' (ce' := 2) (sl' := 5) (pc' := 43) (L' := #[.val (.ref s), .val (.ref oe), .val (.ref r), .val (.int (4 : Int32)), .val (.int (3 : Int32)), .val (.ref c3)]) (S' := [(.ref o)]) rfl rfl rfl rfl rfl ?_
  refine astoreN (pc' := 44) (L' := #[.val (.ref s), .val (.ref o), .val (.ref r), .val (.int (4 : Int32)), .val (.int (3 : Int32)), .val (.ref c3)]) d_prog_31_method_6_43 rfl rfl rfl ?_
  refine iinc (pc' := 47) (v := (4 : Int32)) (L' := #[.val (.ref s), .val (.ref o), .val (.ref r), .val (.int (4 : Int32)), .val (.int (4 : Int32)), .val (.ref c3)]) d_prog_31_method_6_44 rfl rfl rfl rfl ?_
  refine goto (pc' := 14) d_prog_31_method_6_47 (by decide) rfl ?_
  refine iload (pc' := 16) d_prog_31_method_6_14 rfl rfl ?_
  refine iloadN (pc' := 17) d_prog_31_method_6_16 rfl rfl ?_
  refine icmpT (pc' := 50) d_prog_31_method_6_17 (by decide : ¬ ((4 : Int32) < (4 : Int32))) (by decide) rfl ?_
  refine aloadN (pc' := 51) d_prog_31_method_6_50 rfl rfl rfl ?_
  exact retA d_prog_31_method_6_51 rfl rfl rfl (by decide) (by decide) ⟨o, rfl, keepExt K, Eo, Fo⟩
set_option maxRecDepth 65536 in
set_option maxHeartbeats 40000000 in
theorem rm_namedX (l : Launch) (Z : State) (a0 : Array Value) (hw : ∀ d ∈ tables_1, d.before a0 Z = true) (hEL : EW Z a0 consts_1) (n0 : Nat) (va : Addr) (kv : ClassId) (c0 c1 c2 c3 m0 m1 m2 m3 oe : Addr) (s : Addr) (cs : List Int32) (h : Heap) (Ss : Str Z h s cs) (hE : En Z va kv c0 c1 c2 c3 m0 m1 m2 m3) (hO : Oe Z oe) (hB : Sets Z) (hcs : ¬ cs = ([114, 119] : List Int32) ∧ ¬ cs = ([100, 105, 115, 116, 97, 110, 99, 101] : List Int32) ∧ ¬ cs = ([115, 105, 109, 112, 108, 101] : List Int32) ∧ ¬ cs = ([116, 101, 114, 109, 119, 101, 105, 103, 104, 116] : List Int32)) :
    Met l false Z consts_1 n0 (⟨"com/example/contesta/contesta/rank/Model", "named", "(Ljava/lang/String;)Ljava/util/Optional;"⟩ : MethodName) prog_31_method_6_code 6 (some (.object "java/util/Optional")) ({ frames := 3, cells := 2, slots := 5, locals := 45 } : Room) [] #[(.ref s)] [] h (fun v h' => ∃ a, v = some (.ref a) ∧ Ext h h' ∧ Exa Z h' a "java/util/Optional" ∧ Fld Z h' a "java/util/Optional" "value" "Ljava/lang/Object;" .null) := by
  refine Met.of_body (a0 := a0) (L0 := #[.val (.ref s), .unset, .unset, .unset, .unset, .unset]) (plainFor_of_name (by first | (simp [plainName, overriddenIn]; done) | decide +kernel)) (fun m => by first | rfl | (simp [entryFrame, mkF, argsToLocals, Value.category]; done)) hw hEL (by decide) ?_
  have K : Keep h h [] := Keep.refl _ _
  refine call (i := 91) (i2 := 90) (Wd := 0) (pc' := 3) (kStatic (i := 88) (i2 := 89) (i3 := 90) (i4 := 91) (argsL := []) (S' := []) (Wd := 0) d_prog_31_method_6_0 rfl rfl rfl rfl (by decide) rfl pd_3 rfl rfl (Nat.le_of_ble_eq_true rfl)) (rm_empty l Z a0 hw hEL n0 va kv c0 c1 c2 c3 m0 m1 m2 m3 oe _ hE hO hB) rfl rfl (by simp) (by decide) (by decide) (by decide) (by decide) rfl fun v_ h65 P66 sz67 => ?_
  obtain ⟨rfl, e68⟩ := P66
  rw [e68]
  refine at' (ce' := 0) (sl' := 0) (pc' := 3) (L' := #[.val (.ref s), .unset, .unset, .unset, .unset, .unset]) (S' := [(.ref oe)]) rfl rfl rfl rfl rfl ?_
  refine astoreN (pc' := 4) (L' := #[.val (.ref s), .val (.ref oe), .unset, .unset, .unset, .unset]) d_prog_31_method_6_3 rfl rfl rfl ?_
  refine call (i := 95) (i2 := 83) (Wd := 0) (pc' := 7) (kStatic (i := 93) (i2 := 94) (i3 := 83) (i4 := 95) (argsL := []) (S' := []) (Wd := 0) d_prog_31_method_6_4 rfl rfl rfl rfl (by decide) rfl pd_4 rfl rfl (Nat.le_of_ble_eq_true rfl)) (rm_values l Z a0 hw hEL n0 va kv c0 c1 c2 c3 m0 m1 m2 m3 oe _ hE hO hB) rfl rfl (by simp) (by decide) (by decide) (by decide) (by decide) rfl fun v_ h69 P70 sz71 => ?_
  obtain ⟨r, kc, rfl, E1, A1⟩ := P70
  replace K := K.ext E1
  replace Ss := Ss.ext E1
  refine at' (ce' := 1) (sl' := 4) (pc' := 7) (L' := #[.val (.ref s), .val (.ref oe), .unset, .unset, .unset, .unset]) (S' := [(.ref r)]) rfl rfl rfl rfl rfl ?_
  refine astoreN (pc' := 8) (L' := #[.val (.ref s), .val (.ref oe), .val (.ref r), .unset, .unset, .unset]) d_prog_31_method_6_7 rfl rfl rfl ?_
  refine aloadN (pc' := 9) d_prog_31_method_6_8 rfl rfl rfl ?_
  refine arraylength (pc' := 10) d_prog_31_method_6_9 A1 rfl ?_
  refine istoreN (pc' := 11) (L' := #[.val (.ref s), .val (.ref oe), .val (.ref r), .val (.int (4 : Int32)), .unset, .unset]) d_prog_31_method_6_10 rfl rfl ?_
  refine iconst (pc' := 12) (v := (0 : Int32)) d_prog_31_method_6_11 rfl rfl ?_
  refine istore (pc' := 14) (L' := #[.val (.ref s), .val (.ref oe), .val (.ref r), .val (.int (4 : Int32)), .val (.int (0 : Int32)), .unset]) d_prog_31_method_6_12 rfl rfl ?_
  refine iload (pc' := 16) d_prog_31_method_6_14 rfl rfl ?_
  refine iloadN (pc' := 17) d_prog_31_method_6_16 rfl rfl ?_
  refine icmpF (pc' := 20) d_prog_31_method_6_17 (by decide : (0 : Int32) < (4 : Int32)) rfl ?_
  refine aloadN (pc' := 21) d_prog_31_method_6_20 rfl rfl rfl ?_
  refine iload (pc' := 23) d_prog_31_method_6_21 rfl rfl ?_
  refine aaload (pc' := 24) (v := .ref c0) d_prog_31_method_6_23 rfl A1 ⟨by decide, by decide⟩ rfl rfl ?_
  refine astore (pc' := 26) (L' := #[.val (.ref s), .val (.ref oe), .val (.ref r), .val (.int (4 : Int32)), .val (.int (0 : Int32)), .val (.ref c0)]) d_prog_31_method_6_24 rfl rfl rfl ?_
  refine aload (pc' := 28) d_prog_31_method_6_26 rfl rfl rfl ?_
  refine old fun O0 _ => ?_
  refine getfield (i := 111) (pc' := 31) d_prog_31_method_6_28 rfl (hE.2.2.2.1.2.2.1.ext O0.2) rfl ?_
  refine aloadN (pc' := 32) d_prog_31_method_6_31 rfl rfl rfl ?_
  refine strEq (i := 2) (Wd := 0) (pc' := 35) hB (by decide +kernel) rfl (kVirt (i := 113) (i2 := 74) (i3 := 76) (i4 := 75) (C := "java/lang/String") (a := m0) (argsL := [(.ref s)]) (S' := []) (Wd := 0) d_prog_31_method_6_32 rfl rfl rfl rfl (hE.2.2.2.1.2.2.2.ext O0.2).exa (by decide) rfl pd_5 rfl rfl (Nat.le_of_ble_eq_true rfl)) (hE.2.2.2.1.2.2.2.ext O0.2) Ss (by decide) (by decide) (by decide) (by decide) rfl fun b0 q0 => ?_
  obtain rfl : b0 = 0 := by rcases q0 with ⟨r, q⟩ | ⟨r, q⟩ <;> first | exact r | exact absurd q.symm hcs.1
  refine ifT (pc' := 44) d_prog_31_method_6_35 (rfl : (0 : Int32) = (0 : Int32)) (by decide) rfl ?_
  refine iinc (pc' := 47) (v := (1 : Int32)) (L' := #[.val (.ref s), .val (.ref oe), .val (.ref r), .val (.int (4 : Int32)), .val (.int (1 : Int32)), .val (.ref c0)]) d_prog_31_method_6_44 rfl rfl rfl rfl ?_
  refine goto (pc' := 14) d_prog_31_method_6_47 (by decide) rfl ?_
  refine iload (pc' := 16) d_prog_31_method_6_14 rfl rfl ?_
  refine iloadN (pc' := 17) d_prog_31_method_6_16 rfl rfl ?_
  refine icmpF (pc' := 20) d_prog_31_method_6_17 (by decide : (1 : Int32) < (4 : Int32)) rfl ?_
  refine aloadN (pc' := 21) d_prog_31_method_6_20 rfl rfl rfl ?_
  refine iload (pc' := 23) d_prog_31_method_6_21 rfl rfl ?_
  refine aaload (pc' := 24) (v := .ref c1) d_prog_31_method_6_23 rfl A1 ⟨by decide, by decide⟩ rfl rfl ?_
  refine astore (pc' := 26) (L' := #[.val (.ref s), .val (.ref oe), .val (.ref r), .val (.int (4 : Int32)), .val (.int (1 : Int32)), .val (.ref c1)]) d_prog_31_method_6_24 rfl rfl rfl ?_
  refine aload (pc' := 28) d_prog_31_method_6_26 rfl rfl rfl ?_
  refine old fun O1 _ => ?_
  refine getfield (i := 111) (pc' := 31) d_prog_31_method_6_28 rfl (hE.2.2.2.2.1.2.2.1.ext O1.2) rfl ?_
  refine aloadN (pc' := 32) d_prog_31_method_6_31 rfl rfl rfl ?_
  refine strEq (i := 2) (Wd := 0) (pc' := 35) hB (by decide +kernel) rfl (kVirt (i := 113) (i2 := 74) (i3 := 76) (i4 := 75) (C := "java/lang/String") (a := m1) (argsL := [(.ref s)]) (S' := []) (Wd := 0) d_prog_31_method_6_32 rfl rfl rfl rfl (hE.2.2.2.2.1.2.2.2.ext O1.2).exa (by decide) rfl pd_5 rfl rfl (Nat.le_of_ble_eq_true rfl)) (hE.2.2.2.2.1.2.2.2.ext O1.2) Ss (by decide) (by decide) (by decide) (by decide) rfl fun b1 q1 => ?_
  obtain rfl : b1 = 0 := by rcases q1 with ⟨r, q⟩ | ⟨r, q⟩ <;> first | exact r | exact absurd q.symm hcs.2.1
  refine ifT (pc' := 44) d_prog_31_method_6_35 (rfl : (0 : Int32) = (0 : Int32)) (by decide) rfl ?_
  refine iinc (pc' := 47) (v := (2 : Int32)) (L' := #[.val (.ref s), .val (.ref oe), .val (.ref r), .val (.int (4 : Int32)), .val (.int (2 : Int32)), .val (.ref c1)]) d_prog_31_method_6_44 rfl rfl rfl rfl ?_
  refine goto (pc' := 14) d_prog_31_method_6_47 (by decide) rfl ?_
  refine iload (pc' := 16) d_prog_31_method_6_14 rfl rfl ?_
  refine iloadN (pc' := 17) d_prog_31_method_6_16 rfl rfl ?_
  refine icmpF (pc' := 20) d_prog_31_method_6_17 (by decide : (2 : Int32) < (4 : Int32)) rfl ?_
  refine aloadN (pc' := 21) d_prog_31_method_6_20 rfl rfl rfl ?_
  refine iload (pc' := 23) d_prog_31_method_6_21 rfl rfl ?_
  refine aaload (pc' := 24) (v := .ref c2) d_prog_31_method_6_23 rfl A1 ⟨by decide, by decide⟩ rfl rfl ?_
  refine astore (pc' := 26) (L' := #[.val (.ref s), .val (.ref oe), .val (.ref r), .val (.int (4 : Int32)), .val (.int (2 : Int32)), .val (.ref c2)]) d_prog_31_method_6_24 rfl rfl rfl ?_
  refine aload (pc' := 28) d_prog_31_method_6_26 rfl rfl rfl ?_
  refine old fun O2 _ => ?_
  refine getfield (i := 111) (pc' := 31) d_prog_31_method_6_28 rfl (hE.2.2.2.2.2.1.2.2.1.ext O2.2) rfl ?_
  refine aloadN (pc' := 32) d_prog_31_method_6_31 rfl rfl rfl ?_
  refine strEq (i := 2) (Wd := 0) (pc' := 35) hB (by decide +kernel) rfl (kVirt (i := 113) (i2 := 74) (i3 := 76) (i4 := 75) (C := "java/lang/String") (a := m2) (argsL := [(.ref s)]) (S' := []) (Wd := 0) d_prog_31_method_6_32 rfl rfl rfl rfl (hE.2.2.2.2.2.1.2.2.2.ext O2.2).exa (by decide) rfl pd_5 rfl rfl (Nat.le_of_ble_eq_true rfl)) (hE.2.2.2.2.2.1.2.2.2.ext O2.2) Ss (by decide) (by decide) (by decide) (by decide) rfl fun b2 q2 => ?_
  obtain rfl : b2 = 0 := by rcases q2 with ⟨r, q⟩ | ⟨r, q⟩ <;> first | exact r | exact absurd q.symm hcs.2.2.1
  refine ifT (pc' := 44) d_prog_31_method_6_35 (rfl : (0 : Int32) = (0 : Int32)) (by decide) rfl ?_
  refine iinc (pc' := 47) (v := (3 : Int32)) (L' := #[.val (.ref s), .val (.ref oe), .val (.ref r), .val (.int (4 : Int32)), .val (.int (3 : Int32)), .val (.ref c2)]) d_prog_31_method_6_44 rfl rfl rfl rfl ?_
  refine goto (pc' := 14) d_prog_31_method_6_47 (by decide) rfl ?_
  refine iload (pc' := 16) d_prog_31_method_6_14 rfl rfl ?_
  refine iloadN (pc' := 17) d_prog_31_method_6_16 rfl rfl ?_
  refine icmpF (pc' := 20) d_prog_31_method_6_17 (by decide : (3 : Int32) < (4 : Int32)) rfl ?_
  refine aloadN (pc' := 21) d_prog_31_method_6_20 rfl rfl rfl ?_
  refine iload (pc' := 23) d_prog_31_method_6_21 rfl rfl ?_
  refine aaload (pc' := 24) (v := .ref c3) d_prog_31_method_6_23 rfl A1 ⟨by decide, by decide⟩ rfl rfl ?_
  refine astore (pc' := 26) (L' := #[.val (.ref s), .val (.ref oe), .val (.ref r), .val (.int (4 : Int32)), .val (.int (3 : Int32)), .val (.ref c3)]) d_prog_31_method_6_24 rfl rfl rfl ?_
  refine aload (pc' := 28) d_prog_31_method_6_26 rfl rfl rfl ?_
  refine old fun O3 _ => ?_
  refine getfield (i := 111) (pc' := 31) d_prog_31_method_6_28 rfl (hE.2.2.2.2.2.2.2.2.1.ext O3.2) rfl ?_
  refine aloadN (pc' := 32) d_prog_31_method_6_31 rfl rfl rfl ?_
  refine strEq (i := 2) (Wd := 0) (pc' := 35) hB (by decide +kernel) rfl (kVirt (i := 113) (i2 := 74) (i3 := 76) (i4 := 75) (C := "java/lang/String") (a := m3) (argsL := [(.ref s)]) (S' := []) (Wd := 0) d_prog_31_method_6_32 rfl rfl rfl rfl (hE.2.2.2.2.2.2.2.2.2.ext O3.2).exa (by decide) rfl pd_5 rfl rfl (Nat.le_of_ble_eq_true rfl)) (hE.2.2.2.2.2.2.2.2.2.ext O3.2) Ss (by decide) (by decide) (by decide) (by decide) rfl fun b3 q3 => ?_
  obtain rfl : b3 = 0 := by rcases q3 with ⟨r, q⟩ | ⟨r, q⟩ <;> first | exact r | exact absurd q.symm hcs.2.2.2
  refine ifT (pc' := 44) d_prog_31_method_6_35 (rfl : (0 : Int32) = (0 : Int32)) (by decide) rfl ?_
  refine iinc (pc' := 47) (v := (4 : Int32)) (L' := #[.val (.ref s), .val (.ref oe), .val (.ref r), .val (.int (4 : Int32)), .val (.int (4 : Int32)), .val (.ref c3)]) d_prog_31_method_6_44 rfl rfl rfl rfl ?_
  refine goto (pc' := 14) d_prog_31_method_6_47 (by decide) rfl ?_
  refine iload (pc' := 16) d_prog_31_method_6_14 rfl rfl ?_
  refine iloadN (pc' := 17) d_prog_31_method_6_16 rfl rfl ?_
  refine icmpT (pc' := 50) d_prog_31_method_6_17 (by decide : ¬ ((4 : Int32) < (4 : Int32))) (by decide) rfl ?_
  refine aloadN (pc' := 51) d_prog_31_method_6_50 rfl rfl rfl ?_
  refine old fun O _ => ?_
  exact retA d_prog_31_method_6_51 rfl rfl rfl (by decide) (by decide) ⟨oe, rfl, keepExt K, hO.2.1.ext O.2, hO.2.2.ext O.2⟩
set_option maxRecDepth 65536 in
set_option maxHeartbeats 40000000 in
theorem rm_namedN (l : Launch) (Z : State) (a0 : Array Value) (hw : ∀ d ∈ tables_1, d.before a0 Z = true) (hEL : EW Z a0 consts_1) (n0 : Nat) (va : Addr) (kv : ClassId) (c0 c1 c2 c3 m0 m1 m2 m3 oe : Addr) (h : Heap)  (hE : En Z va kv c0 c1 c2 c3 m0 m1 m2 m3) (hO : Oe Z oe) (hB : Sets Z) :
    Met l false Z consts_1 n0 (⟨"com/example/contesta/contesta/rank/Model", "named", "(Ljava/lang/String;)Ljava/util/Optional;"⟩ : MethodName) prog_31_method_6_code 6 (some (.object "java/util/Optional")) ({ frames := 3, cells := 2, slots := 5, locals := 45 } : Room) [] #[.null] [] h (fun v h' => ∃ a, v = some (.ref a) ∧ Ext h h' ∧ Exa Z h' a "java/util/Optional" ∧ Fld Z h' a "java/util/Optional" "value" "Ljava/lang/Object;" .null) := by
  refine Met.of_body (a0 := a0) (L0 := #[.val .null, .unset, .unset, .unset, .unset, .unset]) (plainFor_of_name (by first | (simp [plainName, overriddenIn]; done) | decide +kernel)) (fun m => by first | rfl | (simp [entryFrame, mkF, argsToLocals, Value.category]; done)) hw hEL (by decide) ?_
  have K : Keep h h [] := Keep.refl _ _
  refine call (i := 91) (i2 := 90) (Wd := 0) (pc' := 3) (kStatic (i := 88) (i2 := 89) (i3 := 90) (i4 := 91) (argsL := []) (S' := []) (Wd := 0) d_prog_31_method_6_0 rfl rfl rfl rfl (by decide) rfl pd_3 rfl rfl (Nat.le_of_ble_eq_true rfl)) (rm_empty l Z a0 hw hEL n0 va kv c0 c1 c2 c3 m0 m1 m2 m3 oe _ hE hO hB) rfl rfl (by simp) (by decide) (by decide) (by decide) (by decide) rfl fun v_ h72 P73 sz74 => ?_
  obtain ⟨rfl, e75⟩ := P73
  rw [e75]
  refine at' (ce' := 0) (sl' := 0) (pc' := 3) (L' := #[.val .null, .unset, .unset, .unset, .unset, .unset]) (S' := [(.ref oe)]) rfl rfl rfl rfl rfl ?_
  refine astoreN (pc' := 4) (L' := #[.val .null, .val (.ref oe), .unset, .unset, .unset, .unset]) d_prog_31_method_6_3 rfl rfl rfl ?_
  refine call (i := 95) (i2 := 83) (Wd := 0) (pc' := 7) (kStatic (i := 93) (i2 := 94) (i3 := 83) (i4 := 95) (argsL := []) (S' := []) (Wd := 0) d_prog_31_method_6_4 rfl rfl rfl rfl (by decide) rfl pd_4 rfl rfl (Nat.le_of_ble_eq_true rfl)) (rm_values l Z a0 hw hEL n0 va kv c0 c1 c2 c3 m0 m1 m2 m3 oe _ hE hO hB) rfl rfl (by simp) (by decide) (by decide) (by decide) (by decide) rfl fun v_ h76 P77 sz78 => ?_
  obtain ⟨r, kc, rfl, E1, A1⟩ := P77
  replace K := K.ext E1
  refine at' (ce' := 1) (sl' := 4) (pc' := 7) (L' := #[.val .null, .val (.ref oe), .unset, .unset, .unset, .unset]) (S' := [(.ref r)]) rfl rfl rfl rfl rfl ?_
  refine astoreN (pc' := 8) (L' := #[.val .null, .val (.ref oe), .val (.ref r), .unset, .unset, .unset]) d_prog_31_method_6_7 rfl rfl rfl ?_
  refine aloadN (pc' := 9) d_prog_31_method_6_8 rfl rfl rfl ?_
  refine arraylength (pc' := 10) d_prog_31_method_6_9 A1 rfl ?_
  refine istoreN (pc' := 11) (L' := #[.val .null, .val (.ref oe), .val (.ref r), .val (.int (4 : Int32)), .unset, .unset]) d_prog_31_method_6_10 rfl rfl ?_
  refine iconst (pc' := 12) (v := (0 : Int32)) d_prog_31_method_6_11 rfl rfl ?_
  refine istore (pc' := 14) (L' := #[.val .null, .val (.ref oe), .val (.ref r), .val (.int (4 : Int32)), .val (.int (0 : Int32)), .unset]) d_prog_31_method_6_12 rfl rfl ?_
  refine iload (pc' := 16) d_prog_31_method_6_14 rfl rfl ?_
  refine iloadN (pc' := 17) d_prog_31_method_6_16 rfl rfl ?_
  refine icmpF (pc' := 20) d_prog_31_method_6_17 (by decide : (0 : Int32) < (4 : Int32)) rfl ?_
  refine aloadN (pc' := 21) d_prog_31_method_6_20 rfl rfl rfl ?_
  refine iload (pc' := 23) d_prog_31_method_6_21 rfl rfl ?_
  refine aaload (pc' := 24) (v := .ref c0) d_prog_31_method_6_23 rfl A1 ⟨by decide, by decide⟩ rfl rfl ?_
  refine astore (pc' := 26) (L' := #[.val .null, .val (.ref oe), .val (.ref r), .val (.int (4 : Int32)), .val (.int (0 : Int32)), .val (.ref c0)]) d_prog_31_method_6_24 rfl rfl rfl ?_
  refine aload (pc' := 28) d_prog_31_method_6_26 rfl rfl rfl ?_
  refine old fun O0 _ => ?_
  refine getfield (i := 111) (pc' := 31) d_prog_31_method_6_28 rfl (hE.2.2.2.1.2.2.1.ext O0.2) rfl ?_
  refine aloadN (pc' := 32) d_prog_31_method_6_31 rfl rfl rfl ?_
  refine call (i := 77) (i2 := 1) (Wd := 0) (pc' := 35) (kVirt (i := 113) (i2 := 74) (i3 := 76) (i4 := 75) (C := "java/lang/String") (a := m0) (argsL := [.null]) (S' := []) (Wd := 0) d_prog_31_method_6_32 rfl rfl rfl rfl (hE.2.2.2.1.2.2.2.ext O0.2).exa (by decide) rfl pd_5 rfl rfl (Nat.le_of_ble_eq_true rfl)) (rm_eqN l Z a0 hw hEL n0 m0 _) rfl rfl (by simp) (by decide) (by decide) (by decide) (by decide) rfl fun v_ h79 P80 sz81 => ?_
  obtain ⟨rfl, e82⟩ := P80
  rw [e82]
  refine at' (ce' := 1) (sl' := 4) (pc' := 35) (L' := #[.val .null, .val (.ref oe), .val (.ref r), .val (.int (4 : Int32)), .val (.int (0 : Int32)), .val (.ref c0)]) (S' := [(.int (0 : Int32))]) rfl rfl rfl rfl rfl ?_
  refine ifT (pc' := 44) d_prog_31_method_6_35 (rfl : (0 : Int32) = (0 : Int32)) (by decide) rfl ?_
  refine iinc (pc' := 47) (v := (1 : Int32)) (L' := #[.val .null, .val (.ref oe), .val (.ref r), .val (.int (4 : Int32)), .val (.int (1 : Int32)), .val (.ref c0)]) d_prog_31_method_6_44 rfl rfl rfl rfl ?_
  refine goto (pc' := 14) d_prog_31_method_6_47 (by decide) rfl ?_
  refine iload (pc' := 16) d_prog_31_method_6_14 rfl rfl ?_
  refine iloadN (pc' := 17) d_prog_31_method_6_16 rfl rfl ?_
  refine icmpF (pc' := 20) d_prog_31_method_6_17 (by decide : (1 : Int32) < (4 : Int32)) rfl ?_
  refine aloadN (pc' := 21) d_prog_31_method_6_20 rfl rfl rfl ?_
  refine iload (pc' := 23) d_prog_31_method_6_21 rfl rfl ?_
  refine aaload (pc' := 24) (v := .ref c1) d_prog_31_method_6_23 rfl A1 ⟨by decide, by decide⟩ rfl rfl ?_
  refine astore (pc' := 26) (L' := #[.val .null, .val (.ref oe), .val (.ref r), .val (.int (4 : Int32)), .val (.int (1 : Int32)), .val (.ref c1)]) d_prog_31_method_6_24 rfl rfl rfl ?_
  refine aload (pc' := 28) d_prog_31_method_6_26 rfl rfl rfl ?_
  refine old fun O1 _ => ?_
  refine getfield (i := 111) (pc' := 31) d_prog_31_method_6_28 rfl (hE.2.2.2.2.1.2.2.1.ext O1.2) rfl ?_
  refine aloadN (pc' := 32) d_prog_31_method_6_31 rfl rfl rfl ?_
  refine call (i := 77) (i2 := 1) (Wd := 0) (pc' := 35) (kVirt (i := 113) (i2 := 74) (i3 := 76) (i4 := 75) (C := "java/lang/String") (a := m1) (argsL := [.null]) (S' := []) (Wd := 0) d_prog_31_method_6_32 rfl rfl rfl rfl (hE.2.2.2.2.1.2.2.2.ext O1.2).exa (by decide) rfl pd_5 rfl rfl (Nat.le_of_ble_eq_true rfl)) (rm_eqN l Z a0 hw hEL n0 m1 _) rfl rfl (by simp) (by decide) (by decide) (by decide) (by decide) rfl fun v_ h83 P84 sz85 => ?_
  obtain ⟨rfl, e86⟩ := P84
  rw [e86]
  refine at' (ce' := 1) (sl' := 4) (pc' := 35) (L' := #[.val .null, .val (.ref oe), .val (.ref r), .val (.int (4 : Int32)), .val (.int (1 : Int32)), .val (.ref c1)]) (S' := [(.int (0 : Int32))]) rfl rfl rfl rfl rfl ?_
  refine ifT (pc' := 44) d_prog_31_method_6_35 (rfl : (0 : Int32) = (0 : Int32)) (by decide) rfl ?_
  refine iinc (pc' := 47) (v := (2 : Int32)) (L' := #[.val .null, .val (.ref oe), .val (.ref r), .val (.int (4 : Int32)), .val (.int (2 : Int32)), .val (.ref c1)]) d_prog_31_method_6_44 rfl rfl rfl rfl ?_
  refine goto (pc' := 14) d_prog_31_method_6_47 (by decide) rfl ?_
  refine iload (pc' := 16) d_prog_31_method_6_14 rfl rfl ?_
  refine iloadN (pc' := 17) d_prog_31_method_6_16 rfl rfl ?_
  refine icmpF (pc' := 20) d_prog_31_method_6_17 (by decide : (2 : Int32) < (4 : Int32)) rfl ?_
  refine aloadN (pc' := 21) d_prog_31_method_6_20 rfl rfl rfl ?_
  refine iload (pc' := 23) d_prog_31_method_6_21 rfl rfl ?_
  refine aaload (pc' := 24) (v := .ref c2) d_prog_31_method_6_23 rfl A1 ⟨by decide, by decide⟩ rfl rfl ?_
  refine astore (pc' := 26) (L' := #[.val .null, .val (.ref oe), .val (.ref r), .val (.int (4 : Int32)), .val (.int (2 : Int32)), .val (.ref c2)]) d_prog_31_method_6_24 rfl rfl rfl ?_
  refine aload (pc' := 28) d_prog_31_method_6_26 rfl rfl rfl ?_
  refine old fun O2 _ => ?_
  refine getfield (i := 111) (pc' := 31) d_prog_31_method_6_28 rfl (hE.2.2.2.2.2.1.2.2.1.ext O2.2) rfl ?_
  refine aloadN (pc' := 32) d_prog_31_method_6_31 rfl rfl rfl ?_
  refine call (i := 77) (i2 := 1) (Wd := 0) (pc' := 35) (kVirt (i := 113) (i2 := 74) (i3 := 76) (i4 := 75) (C := "java/lang/String") (a := m2) (argsL := [.null]) (S' := []) (Wd := 0) d_prog_31_method_6_32 rfl rfl rfl rfl (hE.2.2.2.2.2.1.2.2.2.ext O2.2).exa (by decide) rfl pd_5 rfl rfl (Nat.le_of_ble_eq_true rfl)) (rm_eqN l Z a0 hw hEL n0 m2 _) rfl rfl (by simp) (by decide) (by decide) (by decide) (by decide) rfl fun v_ h87 P88 sz89 => ?_
  obtain ⟨rfl, e90⟩ := P88
  rw [e90]
  refine at' (ce' := 1) (sl' := 4) (pc' := 35) (L' := #[.val .null, .val (.ref oe), .val (.ref r), .val (.int (4 : Int32)), .val (.int (2 : Int32)), .val (.ref c2)]) (S' := [(.int (0 : Int32))]) rfl rfl rfl rfl rfl ?_
  refine ifT (pc' := 44) d_prog_31_method_6_35 (rfl : (0 : Int32) = (0 : Int32)) (by decide) rfl ?_
  refine iinc (pc' := 47) (v := (3 : Int32)) (L' := #[.val .null, .val (.ref oe), .val (.ref r), .val (.int (4 : Int32)), .val (.int (3 : Int32)), .val (.ref c2)]) d_prog_31_method_6_44 rfl rfl rfl rfl ?_
  refine goto (pc' := 14) d_prog_31_method_6_47 (by decide) rfl ?_
  refine iload (pc' := 16) d_prog_31_method_6_14 rfl rfl ?_
  refine iloadN (pc' := 17) d_prog_31_method_6_16 rfl rfl ?_
  refine icmpF (pc' := 20) d_prog_31_method_6_17 (by decide : (3 : Int32) < (4 : Int32)) rfl ?_
  refine aloadN (pc' := 21) d_prog_31_method_6_20 rfl rfl rfl ?_
  refine iload (pc' := 23) d_prog_31_method_6_21 rfl rfl ?_
  refine aaload (pc' := 24) (v := .ref c3) d_prog_31_method_6_23 rfl A1 ⟨by decide, by decide⟩ rfl rfl ?_
  refine astore (pc' := 26) (L' := #[.val .null, .val (.ref oe), .val (.ref r), .val (.int (4 : Int32)), .val (.int (3 : Int32)), .val (.ref c3)]) d_prog_31_method_6_24 rfl rfl rfl ?_
  refine aload (pc' := 28) d_prog_31_method_6_26 rfl rfl rfl ?_
  refine old fun O3 _ => ?_
  refine getfield (i := 111) (pc' := 31) d_prog_31_method_6_28 rfl (hE.2.2.2.2.2.2.2.2.1.ext O3.2) rfl ?_
  refine aloadN (pc' := 32) d_prog_31_method_6_31 rfl rfl rfl ?_
  refine call (i := 77) (i2 := 1) (Wd := 0) (pc' := 35) (kVirt (i := 113) (i2 := 74) (i3 := 76) (i4 := 75) (C := "java/lang/String") (a := m3) (argsL := [.null]) (S' := []) (Wd := 0) d_prog_31_method_6_32 rfl rfl rfl rfl (hE.2.2.2.2.2.2.2.2.2.ext O3.2).exa (by decide) rfl pd_5 rfl rfl (Nat.le_of_ble_eq_true rfl)) (rm_eqN l Z a0 hw hEL n0 m3 _) rfl rfl (by simp) (by decide) (by decide) (by decide) (by decide) rfl fun v_ h91 P92 sz93 => ?_
  obtain ⟨rfl, e94⟩ := P92
  rw [e94]
  refine at' (ce' := 1) (sl' := 4) (pc' := 35) (L' := #[.val .null, .val (.ref oe), .val (.ref r), .val (.int (4 : Int32)), .val (.int (3 : Int32)), .val (.ref c3)]) (S' := [(.int (0 : Int32))]) rfl rfl rfl rfl rfl ?_
  refine ifT (pc' := 44) d_prog_31_method_6_35 (rfl : (0 : Int32) = (0 : Int32)) (by decide) rfl ?_
  refine iinc (pc' := 47) (v := (4 : Int32)) (L' := #[.val .null, .val (.ref oe), .val (.ref r), .val (.int (4 : Int32)), .val (.int (4 : Int32)), .val (.ref c3)]) d_prog_31_method_6_44 rfl rfl rfl rfl ?_
  refine goto (pc' := 14) d_prog_31_method_6_47 (by decide) rfl ?_
  refine iload (pc' := 16) d_prog_31_method_6_14 rfl rfl ?_
  refine iloadN (pc' := 17) d_prog_31_method_6_16 rfl rfl ?_
  refine icmpT (pc' := 50) d_prog_31_method_6_17 (by decide : ¬ ((4 : Int32) < (4 : Int32))) (by decide) rfl ?_
  refine aloadN (pc' := 51) d_prog_31_method_6_50 rfl rfl rfl ?_
  refine old fun O _ => ?_
  exact retA d_prog_31_method_6_51 rfl rfl rfl (by decide) (by decide) ⟨oe, rfl, keepExt K, hO.2.1.ext O.2, hO.2.2.ext O.2⟩
set_option maxRecDepth 65536 in
set_option maxHeartbeats 40000000 in
theorem rm_at (l : Launch) (Z : State) (a0 : Array Value) (hw : ∀ d ∈ tables_1, d.before a0 Z = true) (hEL : EW Z a0 consts_1) (n0 : Nat) (x : Addr) (cb : List Int32) (i p : Int32) (ja jb : Int64) (k : Nat) (h : Heap) (Sx : Str Z h x cb) (hB : Sets Z) (hik : i = Int32.ofNat k) (hk : k < 12) (hcb : cb.length < 12) :
    Met l false Z consts_1 n0 (⟨"com/example/contesta/contesta/rank/ModelNamedPinLaw", "at", "(Ljava/lang/String;IIJJ)C"⟩ : MethodName) method_3_code 9 (some .char) ({ frames := 4, cells := 0, slots := 0, locals := 54 } : Room) [] #[(.ref x), (.int i), (.int p), (.long ja), (.long jb)] [] h (fun v h' => (∃ c, v = some (.int c) ∧ ok c) ∧ h' = h) := by
  refine Met.of_body (a0 := a0) (L0 := #[.val (.ref x), .val (.int i), .val (.int p), .val (.long ja), .second, .val (.long jb), .second, .unset, .unset]) (plainFor_of_name (by first | (simp [plainName, overriddenIn]; done) | decide +kernel)) (fun m => by first | (simp [entryFrame, mkF, argsToLocals, Value.category]; done) | rfl) hw hEL (by decide) ?_
  have J48 : ∀ ww : Int64, Wq l false Z consts_1 a0 n0 (⟨"com/example/contesta/contesta/rank/ModelNamedPinLaw", "at", "(Ljava/lang/String;IIJJ)C"⟩ : MethodName) method_3_code 9 (some .char) ({ frames := 4, cells := 0, slots := 0, locals := 54 } : Room) h (fun v h' => (∃ c, v = some (.int c) ∧ ok c) ∧ h' = h) [] h 0 0 48 #[.val (.ref x), .val (.int i), .val (.int p), .val (.long ja), .second, .val (.long jb), .second, .val (.long ww), .second] [] := by
    intro ww
    refine lload (pc' := 50) d_method_3_48 rfl rfl ?_
    refine ldc2Long (i := 142) (v := (255 : Int64)) (pc' := 53) d_method_3_50 rfl rfl ?_
    refine land (pc' := 54) d_method_3_53 rfl ?_
    refine l2i (pc' := 55) d_method_3_54 rfl ?_
    refine i2c (pc' := 56) d_method_3_55 rfl ?_
    rw [own_i2c (own_l8 ww)]
    exact retI d_method_3_56 rfl (Or.inr (Or.inr (Or.inr (Or.inl rfl)))) (congrArg Value.int (own_nar (own_l8 ww))) (by decide) (by decide) ⟨⟨_, rfl, own_l8 ww⟩, rfl⟩
  have J19 : Wq l false Z consts_1 a0 n0 (⟨"com/example/contesta/contesta/rank/ModelNamedPinLaw", "at", "(Ljava/lang/String;IIJJ)C"⟩ : MethodName) method_3_code 9 (some .char) ({ frames := 4, cells := 0, slots := 0, locals := 54 } : Room) h (fun v h' => (∃ c, v = some (.int c) ∧ ok c) ∧ h' = h) [] h 0 0 19 #[.val (.ref x), .val (.int i), .val (.int p), .val (.long ja), .second, .val (.long jb), .second, .unset, .unset] [] := by
    refine iloadN (pc' := 20) d_method_3_19 rfl rfl ?_
    refine bipush (pc' := 22) (v := (8 : Int32)) d_method_3_20 rfl rfl ?_
    refine icmp (pc' := 36) (pcF := 25) d_method_3_22 (by decide) rfl rfl (fun (q8 : ¬ (i < (8 : Int32))) => ?_) (fun (q8 : i < (8 : Int32)) => ?_)
    · skip
      refine lload (pc' := 38) d_method_3_36 rfl rfl ?_
      refine bipush (pc' := 40) (v := (8 : Int32)) d_method_3_38 rfl rfl ?_
      refine iloadN (pc' := 41) d_method_3_40 rfl rfl ?_
      refine bipush (pc' := 43) (v := (8 : Int32)) d_method_3_41 rfl rfl ?_
      refine isub (pc' := 44) d_method_3_43 rfl ?_
      refine imul (pc' := 45) d_method_3_44 rfl ?_
      refine lushr (pc' := 46) d_method_3_45 rfl ?_
      refine lstore (pc' := 48) (L' := #[.val (.ref x), .val (.int i), .val (.int p), .val (.long ja), .second, .val (.long jb), .second, .val (.long ((jb.toUInt64 >>> (((8 : Int32) * (i - (8 : Int32))) &&& 0x3f).toInt64.toUInt64).toInt64)), .second]) d_method_3_46 rfl rfl ?_
      exact J48 _
    · skip
      refine lloadN (pc' := 26) d_method_3_25 rfl rfl ?_
      refine bipush (pc' := 28) (v := (8 : Int32)) d_method_3_26 rfl rfl ?_
      refine iloadN (pc' := 29) d_method_3_28 rfl rfl ?_
      refine imul (pc' := 30) d_method_3_29 rfl ?_
      refine lushr (pc' := 31) d_method_3_30 rfl ?_
      refine lstore (pc' := 33) (L' := #[.val (.ref x), .val (.int i), .val (.int p), .val (.long ja), .second, .val (.long jb), .second, .val (.long ((ja.toUInt64 >>> (((8 : Int32) * i) &&& 0x3f).toInt64.toUInt64).toInt64)), .second]) d_method_3_31 rfl rfl ?_
      refine goto (pc' := 48) d_method_3_33 (by decide) rfl ?_
      exact J48 _
  refine iloadN (pc' := 1) d_method_3_0 rfl rfl ?_
  refine aloadN (pc' := 2) d_method_3_1 rfl rfl rfl ?_
  refine strLen (i := 2) (Wd := 1) (cs := cb) (pc' := 5) hB (by decide +kernel) rfl (kVirt (i := 9) (i2 := 10) (i3 := 12) (i4 := 11) (C := "java/lang/String") (a := x) (argsL := []) (S' := [(.int i)]) (Wd := 1) d_method_3_2 rfl rfl rfl rfl Sx.exa (by decide) rfl pd_7 rfl rfl (Nat.le_of_ble_eq_true rfl)) Sx (by decide) (by decide) (by decide) (by decide) rfl ?_
  refine at' (ce' := 0) (sl' := 0) (pc' := 5) (L' := #[.val (.ref x), .val (.int i), .val (.int p), .val (.long ja), .second, .val (.long jb), .second, .unset, .unset]) (S' := [(.int (Int32.ofNat (cb).length)), (.int i)]) rfl rfl rfl rfl rfl ?_
  refine icmp (pc' := 19) (pcF := 8) d_method_3_5 (by decide) rfl rfl (fun (q0 : ¬ (i < (Int32.ofNat (cb).length))) => ?_) (fun (q0 : i < (Int32.ofNat (cb).length)) => ?_)
  · skip
    exact J19
  · skip
    rw [hik] at q0
    have q1 := (own_lt k hk _ hcb).mp q0
    refine iloadN (pc' := 9) d_method_3_8 rfl rfl ?_
    refine iloadN (pc' := 10) d_method_3_9 rfl rfl ?_
    refine icmp (pc' := 19) (pcF := 13) d_method_3_10 (by decide) rfl rfl (fun (q2 : i = p) => ?_) (fun (q2 : ¬ (i = p)) => ?_)
    · skip
      exact J19
    · skip
      refine aloadN (pc' := 14) d_method_3_13 rfl rfl rfl ?_
      refine iloadN (pc' := 15) d_method_3_14 rfl rfl ?_
      refine strAt (i := 2) (Wd := 0) (j := k) (c := cb.getD k 0) (pc' := 18) hB (by decide +kernel) rfl (kVirt (i := 30) (i2 := 31) (i3 := 33) (i4 := 32) (C := "java/lang/String") (a := x) (argsL := [(.int i)]) (S' := []) (Wd := 0) d_method_3_15 rfl rfl rfl rfl Sx.exa (by decide) rfl pd_8 rfl rfl (Nat.le_of_ble_eq_true rfl)) Sx q1 hik rfl (by decide) (by decide) (by decide) (by decide) rfl ?_
      refine at' (ce' := 0) (sl' := 0) (pc' := 18) (L' := #[.val (.ref x), .val (.int i), .val (.int p), .val (.long ja), .second, .val (.long jb), .second, .unset, .unset]) (S' := [(.int (cb.getD k 0))]) rfl rfl rfl rfl rfl ?_
      exact retI d_method_3_18 rfl (Or.inr (Or.inr (Or.inr (Or.inl rfl)))) (congrArg Value.int (own_nar (ok_get Sx.2.2.2.1 q1))) (by decide) (by decide) ⟨⟨_, rfl, ok_get Sx.2.2.2.1 q1⟩, rfl⟩
set_option maxRecDepth 65536 in
set_option maxHeartbeats 40000000 in
theorem rm_make (l : Launch) (Z : State) (a0 : Array Value) (hw : ∀ d ∈ tables_1, d.before a0 Z = true) (hEL : EW Z a0 consts_1) (n0 : Nat) (n : Int32) (x : Addr) (cb : List Int32) (p : Int32) (ja jb : Int64) (h : Heap) (Sx : Str Z h x cb) (hB : Sets Z) (hn : t12 n) (hcb : cb.length < 12) :
    Met l false Z consts_1 n0 (⟨"com/example/contesta/contesta/rank/ModelNamedPinLaw", "make", "(ILjava/lang/String;IJJ)Ljava/lang/String;"⟩ : MethodName) method_4_code 8 (some (.object "java/lang/String")) ({ frames := 5, cells := 6, slots := 34, locals := 80 } : Room) [] #[(.int n), (.ref x), (.int p), (.long ja), (.long jb)] [] h (fun v h' => ∃ r cs, v = some (.ref r) ∧ Ext h h' ∧ Str Z h' r cs) := by
  refine Met.of_body (a0 := a0) (L0 := #[.val (.int n), .val (.ref x), .val (.int p), .val (.long ja), .second, .val (.long jb), .second, .unset]) (plainFor_of_name (by first | (simp [plainName, overriddenIn]; done) | decide +kernel)) (fun m => by first | rfl | (simp [entryFrame, mkF, argsToLocals, Value.category]; done)) hw hEL (by decide) ?_
  have K : Keep h h [] := Keep.refl _ _
  unfold t12 at hn
  rcases hn with rfl | rfl | rfl | rfl | rfl | rfl | rfl | rfl | rfl | rfl | rfl | rfl
  · skip
    refine at' (ce' := 0) (sl' := 0) (pc' := 0) (L' := #[.val (.int (0 : Int32)), .val (.ref x), .val (.int p), .val (.long ja), .second, .val (.long jb), .second, .unset]) (S' := []) rfl rfl rfl rfl rfl ?_
    refine iloadN (pc' := 1) d_method_4_0 rfl rfl ?_
    refine ifF (pc' := 4) d_method_4_1 (by decide : (0 : Int32) = (0 : Int32)) rfl ?_
    refine iconst (pc' := 5) (v := (0 : Int32)) d_method_4_4 rfl rfl ?_
    refine newarray (i := 26) (cap := 0) (ty := .char) (pc' := 7) d_method_4_5 rfl rfl (by decide) (by decide) (by decide) (by decide) (by decide) rfl fun h95 a96 kc100 g97 E98 V99 => ?_
    have sz_a96 : h.size ≤ a96 := by rw [g97]; exact K.1
    replace K := K.ext E98
    replace V99 : Arv Z h95 a96 kc100 .char (0 : Int32) [] (.int (0 : Int32)) := V99.pad (pad_rep [] (.int (0 : Int32)) 0)
    refine astore (pc' := 9) (L' := #[.val (.int (0 : Int32)), .val (.ref x), .val (.int p), .val (.long ja), .second, .val (.long jb), .second, .val (.ref a96)]) d_method_4_7 rfl rfl rfl ?_
    refine goto (pc' := 158) d_method_4_9 (by decide) rfl ?_
    refine iloadN (pc' := 159) d_method_4_158 rfl rfl ?_
    refine ifT (pc' := 175) d_method_4_159 (by decide : ¬ ((0 : Int32) < (0 : Int32))) (by decide) rfl ?_
    refine iloadN (pc' := 176) d_method_4_175 rfl rfl ?_
    refine iconst (pc' := 177) (v := (1 : Int32)) d_method_4_176 rfl rfl ?_
    refine icmpT (pc' := 193) d_method_4_177 (by decide : ¬ ((1 : Int32) < (0 : Int32))) (by decide) rfl ?_
    refine iloadN (pc' := 194) d_method_4_193 rfl rfl ?_
    refine iconst (pc' := 195) (v := (2 : Int32)) d_method_4_194 rfl rfl ?_
    refine icmpT (pc' := 211) d_method_4_195 (by decide : ¬ ((2 : Int32) < (0 : Int32))) (by decide) rfl ?_
    refine iloadN (pc' := 212) d_method_4_211 rfl rfl ?_
    refine iconst (pc' := 213) (v := (3 : Int32)) d_method_4_212 rfl rfl ?_
    refine icmpT (pc' := 229) d_method_4_213 (by decide : ¬ ((3 : Int32) < (0 : Int32))) (by decide) rfl ?_
    refine iloadN (pc' := 230) d_method_4_229 rfl rfl ?_
    refine iconst (pc' := 231) (v := (4 : Int32)) d_method_4_230 rfl rfl ?_
    refine icmpT (pc' := 247) d_method_4_231 (by decide : ¬ ((4 : Int32) < (0 : Int32))) (by decide) rfl ?_
    refine iloadN (pc' := 248) d_method_4_247 rfl rfl ?_
    refine iconst (pc' := 249) (v := (5 : Int32)) d_method_4_248 rfl rfl ?_
    refine icmpT (pc' := 265) d_method_4_249 (by decide : ¬ ((5 : Int32) < (0 : Int32))) (by decide) rfl ?_
    refine iloadN (pc' := 266) d_method_4_265 rfl rfl ?_
    refine bipush (pc' := 268) (v := (6 : Int32)) d_method_4_266 rfl rfl ?_
    refine icmpT (pc' := 286) d_method_4_268 (by decide : ¬ ((6 : Int32) < (0 : Int32))) (by decide) rfl ?_
    refine iloadN (pc' := 287) d_method_4_286 rfl rfl ?_
    refine bipush (pc' := 289) (v := (7 : Int32)) d_method_4_287 rfl rfl ?_
    refine icmpT (pc' := 307) d_method_4_289 (by decide : ¬ ((7 : Int32) < (0 : Int32))) (by decide) rfl ?_
    refine iloadN (pc' := 308) d_method_4_307 rfl rfl ?_
    refine bipush (pc' := 310) (v := (8 : Int32)) d_method_4_308 rfl rfl ?_
    refine icmpT (pc' := 328) d_method_4_310 (by decide : ¬ ((8 : Int32) < (0 : Int32))) (by decide) rfl ?_
    refine iloadN (pc' := 329) d_method_4_328 rfl rfl ?_
    refine bipush (pc' := 331) (v := (9 : Int32)) d_method_4_329 rfl rfl ?_
    refine icmpT (pc' := 349) d_method_4_331 (by decide : ¬ ((9 : Int32) < (0 : Int32))) (by decide) rfl ?_
    refine iloadN (pc' := 350) d_method_4_349 rfl rfl ?_
    refine bipush (pc' := 352) (v := (10 : Int32)) d_method_4_350 rfl rfl ?_
    refine icmpT (pc' := 370) d_method_4_352 (by decide : ¬ ((10 : Int32) < (0 : Int32))) (by decide) rfl ?_
    refine new (i := 52) (i2 := 2) (i3 := 1) (pc' := 373) d_method_4_370 rfl rfl rfl (by decide) (by decide) rfl fun h101 a102 g103 E104 A105 D106 => ?_
    have sz_a102 : h.size ≤ a102 := by rw [g103]; exact K.1
    have ne_a96_a102 : a96 ≠ a102 := Nat.ne_of_lt (by rw [g103]; exact V99.lt)
    replace K := K.ext E104
    replace V99 := V99.ext E104
    have F_value_a102 : Fld Z h101 a102 "java/lang/String" "value" "[B" .null := D106 (Or.inr (hw _ (List.mem_of_getElem? (i := 4) rfl))) (ty := (.array .byte)) (by decide)
    have F_coder_a102 : Fld Z h101 a102 "java/lang/String" "coder" "B" (.int (0 : Int32)) := D106 (Or.inr (hw _ (List.mem_of_getElem? (i := 5) rfl))) (ty := .byte) (by decide)
    refine dup (pc' := 374) d_method_4_373 rfl rfl ?_
    refine aload (pc' := 376) d_method_4_374 rfl rfl rfl ?_
    have Vb : Arv Z h101 a96 kc100 .char (0 : Int32) (List.map Value.int ([] : List Int32)) (.int (0 : Int32)) := by
      have q := V99
      exact q
    refine strNewW (i := 2) (Wd := 1) (n := 0) (cs := ([] : List Int32)) (pc' := 379) hB (by decide +kernel) rfl (kInit (i := 53) (i2 := 54) (i4 := 55) (a := a102) (argsL := [(.ref a96)]) (S' := [(.ref a102)]) (Wd := 1) d_method_4_376 rfl rfl rfl rfl (by decide) rfl pd_9 rfl rfl (Nat.le_of_ble_eq_true rfl)) A105 F_value_a102 F_coder_a102 Vb rfl rfl (by decide) (by simp) (by simp) (by decide) (by decide) (by decide) (by decide) rfl fun hs Ks Ss => ?_
    replace K := K.trans Ks (allS (Or.inr sz_a102) all0)
    replace A105 := A105.keep Ks
    refine at' (ce' := 6) (sl' := 12) (pc' := 379) (L' := #[.val (.int (0 : Int32)), .val (.ref x), .val (.int p), .val (.long ja), .second, .val (.long jb), .second, .val (.ref a96)]) (S' := [(.ref a102)]) rfl rfl rfl rfl rfl ?_
    exact retA d_method_4_379 rfl rfl rfl (by decide) (by decide) ⟨a102, ([] : List Int32), rfl, keepExt K, Ss⟩
  · skip
    refine at' (ce' := 0) (sl' := 0) (pc' := 0) (L' := #[.val (.int (1 : Int32)), .val (.ref x), .val (.int p), .val (.long ja), .second, .val (.long jb), .second, .unset]) (S' := []) rfl rfl rfl rfl rfl ?_
    refine iloadN (pc' := 1) d_method_4_0 rfl rfl ?_
    refine ifT (pc' := 12) d_method_4_1 (by decide : ¬ ((1 : Int32) = (0 : Int32))) (by decide) rfl ?_
    refine iloadN (pc' := 13) d_method_4_12 rfl rfl ?_
    refine iconst (pc' := 14) (v := (1 : Int32)) d_method_4_13 rfl rfl ?_
    refine icmpF (pc' := 17) d_method_4_14 (by decide : (1 : Int32) = (1 : Int32)) rfl ?_
    refine iconst (pc' := 18) (v := (1 : Int32)) d_method_4_17 rfl rfl ?_
    refine newarray (i := 26) (cap := 1) (ty := .char) (pc' := 20) d_method_4_18 rfl rfl (by decide) (by decide) (by decide) (by decide) (by decide) rfl fun h107 a108 kc112 g109 E110 V111 => ?_
    have sz_a108 : h.size ≤ a108 := by rw [g109]; exact K.1
    replace K := K.ext E110
    replace V111 : Arv Z h107 a108 kc112 .char (1 : Int32) [(.int (0 : Int32))] (.int (0 : Int32)) := V111.pad (pad_rep [] (.int (0 : Int32)) 1)
    refine astore (pc' := 22) (L' := #[.val (.int (1 : Int32)), .val (.ref x), .val (.int p), .val (.long ja), .second, .val (.long jb), .second, .val (.ref a108)]) d_method_4_20 rfl rfl rfl ?_
    refine goto (pc' := 158) d_method_4_22 (by decide) rfl ?_
    refine iloadN (pc' := 159) d_method_4_158 rfl rfl ?_
    refine ifF (pc' := 162) d_method_4_159 (by decide : (0 : Int32) < (1 : Int32)) rfl ?_
    refine aload (pc' := 164) d_method_4_162 rfl rfl rfl ?_
    refine iconst (pc' := 165) (v := (0 : Int32)) d_method_4_164 rfl rfl ?_
    refine aloadN (pc' := 166) d_method_4_165 rfl rfl rfl ?_
    refine iconst (pc' := 167) (v := (0 : Int32)) d_method_4_166 rfl rfl ?_
    refine iloadN (pc' := 168) d_method_4_167 rfl rfl ?_
    refine lloadN (pc' := 169) d_method_4_168 rfl rfl ?_
    refine lload (pc' := 171) d_method_4_169 rfl rfl ?_
    refine call (i := 29) (i2 := 24) (Wd := 2) (pc' := 174) (kStatic (i := 27) (i2 := 28) (i3 := 24) (i4 := 29) (argsL := [(.ref x), (.int (0 : Int32)), (.int p), (.long ja), (.long jb)]) (S' := [(.int (0 : Int32)), (.ref a108)]) (Wd := 2) d_method_4_171 rfl rfl rfl rfl (by decide) rfl pd_10 rfl rfl (Nat.le_of_ble_eq_true rfl)) (rm_at l Z a0 hw hEL n0 x cb 0 p ja jb 0 _ (Sx.ext (keepExt K)) hB rfl (by decide) hcb) rfl rfl (by simp) (by decide) (by decide) (by decide) (by decide) rfl fun v_ h113 P114 sz115 => ?_
    obtain ⟨⟨c0, rfl, hc0⟩, e116⟩ := P114
    rw [e116]
    refine at' (ce' := 1) (sl' := 1) (pc' := 174) (L' := #[.val (.int (1 : Int32)), .val (.ref x), .val (.int p), .val (.long ja), .second, .val (.long jb), .second, .val (.ref a108)]) (S' := [(.int c0), (.int (0 : Int32)), (.ref a108)]) rfl rfl rfl rfl rfl ?_
    refine castore (pc' := 175) d_method_4_174 V111 ⟨by decide, by decide⟩ (by simp) (Nat.le_of_ble_eq_true rfl) rfl fun h117 W118 V119 => ?_
    replace K := K.wr W118 (Or.inr sz_a108)
    replace V111 : Arv Z h117 a108 kc112 .char (1 : Int32) [(.int (nar .char c0))] (.int (0 : Int32)) := V119
    refine iloadN (pc' := 176) d_method_4_175 rfl rfl ?_
    refine iconst (pc' := 177) (v := (1 : Int32)) d_method_4_176 rfl rfl ?_
    refine icmpT (pc' := 193) d_method_4_177 (by decide : ¬ ((1 : Int32) < (1 : Int32))) (by decide) rfl ?_
    refine iloadN (pc' := 194) d_method_4_193 rfl rfl ?_
    refine iconst (pc' := 195) (v := (2 : Int32)) d_method_4_194 rfl rfl ?_
    refine icmpT (pc' := 211) d_method_4_195 (by decide : ¬ ((2 : Int32) < (1 : Int32))) (by decide) rfl ?_
    refine iloadN (pc' := 212) d_method_4_211 rfl rfl ?_
    refine iconst (pc' := 213) (v := (3 : Int32)) d_method_4_212 rfl rfl ?_
    refine icmpT (pc' := 229) d_method_4_213 (by decide : ¬ ((3 : Int32) < (1 : Int32))) (by decide) rfl ?_
    refine iloadN (pc' := 230) d_method_4_229 rfl rfl ?_
    refine iconst (pc' := 231) (v := (4 : Int32)) d_method_4_230 rfl rfl ?_
    refine icmpT (pc' := 247) d_method_4_231 (by decide : ¬ ((4 : Int32) < (1 : Int32))) (by decide) rfl ?_
    refine iloadN (pc' := 248) d_method_4_247 rfl rfl ?_
    refine iconst (pc' := 249) (v := (5 : Int32)) d_method_4_248 rfl rfl ?_
    refine icmpT (pc' := 265) d_method_4_249 (by decide : ¬ ((5 : Int32) < (1 : Int32))) (by decide) rfl ?_
    refine iloadN (pc' := 266) d_method_4_265 rfl rfl ?_
    refine bipush (pc' := 268) (v := (6 : Int32)) d_method_4_266 rfl rfl ?_
    refine icmpT (pc' := 286) d_method_4_268 (by decide : ¬ ((6 : Int32) < (1 : Int32))) (by decide) rfl ?_
    refine iloadN (pc' := 287) d_method_4_286 rfl rfl ?_
    refine bipush (pc' := 289) (v := (7 : Int32)) d_method_4_287 rfl rfl ?_
    refine icmpT (pc' := 307) d_method_4_289 (by decide : ¬ ((7 : Int32) < (1 : Int32))) (by decide) rfl ?_
    refine iloadN (pc' := 308) d_method_4_307 rfl rfl ?_
    refine bipush (pc' := 310) (v := (8 : Int32)) d_method_4_308 rfl rfl ?_
    refine icmpT (pc' := 328) d_method_4_310 (by decide : ¬ ((8 : Int32) < (1 : Int32))) (by decide) rfl ?_
    refine iloadN (pc' := 329) d_method_4_328 rfl rfl ?_
    refine bipush (pc' := 331) (v := (9 : Int32)) d_method_4_329 rfl rfl ?_
    refine icmpT (pc' := 349) d_method_4_331 (by decide : ¬ ((9 : Int32) < (1 : Int32))) (by decide) rfl ?_
    refine iloadN (pc' := 350) d_method_4_349 rfl rfl ?_
    refine bipush (pc' := 352) (v := (10 : Int32)) d_method_4_350 rfl rfl ?_
    refine icmpT (pc' := 370) d_method_4_352 (by decide : ¬ ((10 : Int32) < (1 : Int32))) (by decide) rfl ?_
    refine new (i := 52) (i2 := 2) (i3 := 1) (pc' := 373) d_method_4_370 rfl rfl rfl (by decide) (by decide) rfl fun h120 a121 g122 E123 A124 D125 => ?_
    have sz_a121 : h.size ≤ a121 := by rw [g122]; exact K.1
    have ne_a108_a121 : a108 ≠ a121 := Nat.ne_of_lt (by rw [g122]; exact V111.lt)
    replace K := K.ext E123
    replace V111 := V111.ext E123
    have F_value_a121 : Fld Z h120 a121 "java/lang/String" "value" "[B" .null := D125 (Or.inr (hw _ (List.mem_of_getElem? (i := 4) rfl))) (ty := (.array .byte)) (by decide)
    have F_coder_a121 : Fld Z h120 a121 "java/lang/String" "coder" "B" (.int (0 : Int32)) := D125 (Or.inr (hw _ (List.mem_of_getElem? (i := 5) rfl))) (ty := .byte) (by decide)
    refine dup (pc' := 374) d_method_4_373 rfl rfl ?_
    refine aload (pc' := 376) d_method_4_374 rfl rfl rfl ?_
    have Vb : Arv Z h120 a108 kc112 .char (1 : Int32) (List.map Value.int ([c0] : List Int32)) (.int (0 : Int32)) := by
      have q := V111
      rw [own_nar hc0] at q; exact q
    refine strNewW (i := 2) (Wd := 1) (n := 1) (cs := ([c0] : List Int32)) (pc' := 379) hB (by decide +kernel) rfl (kInit (i := 53) (i2 := 54) (i4 := 55) (a := a121) (argsL := [(.ref a108)]) (S' := [(.ref a121)]) (Wd := 1) d_method_4_376 rfl rfl rfl rfl (by decide) rfl pd_9 rfl rfl (Nat.le_of_ble_eq_true rfl)) A124 F_value_a121 F_coder_a121 Vb rfl rfl (by decide) (by intro c hc; simp only [List.mem_cons, List.not_mem_nil, or_false] at hc; rcases hc with rfl <;> assumption) (by simp) (by decide) (by decide) (by decide) (by decide) rfl fun hs Ks Ss => ?_
    replace K := K.trans Ks (allS (Or.inr sz_a121) all0)
    replace A124 := A124.keep Ks
    refine at' (ce' := 6) (sl' := 14) (pc' := 379) (L' := #[.val (.int (1 : Int32)), .val (.ref x), .val (.int p), .val (.long ja), .second, .val (.long jb), .second, .val (.ref a108)]) (S' := [(.ref a121)]) rfl rfl rfl rfl rfl ?_
    exact retA d_method_4_379 rfl rfl rfl (by decide) (by decide) ⟨a121, ([c0] : List Int32), rfl, keepExt K, Ss⟩
  · skip
    refine at' (ce' := 0) (sl' := 0) (pc' := 0) (L' := #[.val (.int (2 : Int32)), .val (.ref x), .val (.int p), .val (.long ja), .second, .val (.long jb), .second, .unset]) (S' := []) rfl rfl rfl rfl rfl ?_
    refine iloadN (pc' := 1) d_method_4_0 rfl rfl ?_
    refine ifT (pc' := 12) d_method_4_1 (by decide : ¬ ((2 : Int32) = (0 : Int32))) (by decide) rfl ?_
    refine iloadN (pc' := 13) d_method_4_12 rfl rfl ?_
    refine iconst (pc' := 14) (v := (1 : Int32)) d_method_4_13 rfl rfl ?_
    refine icmpT (pc' := 25) d_method_4_14 (by decide : ¬ ((2 : Int32) = (1 : Int32))) (by decide) rfl ?_
    refine iloadN (pc' := 26) d_method_4_25 rfl rfl ?_
    refine iconst (pc' := 27) (v := (2 : Int32)) d_method_4_26 rfl rfl ?_
    refine icmpF (pc' := 30) d_method_4_27 (by decide : (2 : Int32) = (2 : Int32)) rfl ?_
    refine iconst (pc' := 31) (v := (2 : Int32)) d_method_4_30 rfl rfl ?_
    refine newarray (i := 26) (cap := 2) (ty := .char) (pc' := 33) d_method_4_31 rfl rfl (by decide) (by decide) (by decide) (by decide) (by decide) rfl fun h126 a127 kc131 g128 E129 V130 => ?_
    have sz_a127 : h.size ≤ a127 := by rw [g128]; exact K.1
    replace K := K.ext E129
    replace V130 : Arv Z h126 a127 kc131 .char (2 : Int32) [(.int (0 : Int32)), (.int (0 : Int32))] (.int (0 : Int32)) := V130.pad (pad_rep [] (.int (0 : Int32)) 2)
    refine astore (pc' := 35) (L' := #[.val (.int (2 : Int32)), .val (.ref x), .val (.int p), .val (.long ja), .second, .val (.long jb), .second, .val (.ref a127)]) d_method_4_33 rfl rfl rfl ?_
    refine goto (pc' := 158) d_method_4_35 (by decide) rfl ?_
    refine iloadN (pc' := 159) d_method_4_158 rfl rfl ?_
    refine ifF (pc' := 162) d_method_4_159 (by decide : (0 : Int32) < (2 : Int32)) rfl ?_
    refine aload (pc' := 164) d_method_4_162 rfl rfl rfl ?_
    refine iconst (pc' := 165) (v := (0 : Int32)) d_method_4_164 rfl rfl ?_
    refine aloadN (pc' := 166) d_method_4_165 rfl rfl rfl ?_
    refine iconst (pc' := 167) (v := (0 : Int32)) d_method_4_166 rfl rfl ?_
    refine iloadN (pc' := 168) d_method_4_167 rfl rfl ?_
    refine lloadN (pc' := 169) d_method_4_168 rfl rfl ?_
    refine lload (pc' := 171) d_method_4_169 rfl rfl ?_
    refine call (i := 29) (i2 := 24) (Wd := 2) (pc' := 174) (kStatic (i := 27) (i2 := 28) (i3 := 24) (i4 := 29) (argsL := [(.ref x), (.int (0 : Int32)), (.int p), (.long ja), (.long jb)]) (S' := [(.int (0 : Int32)), (.ref a127)]) (Wd := 2) d_method_4_171 rfl rfl rfl rfl (by decide) rfl pd_10 rfl rfl (Nat.le_of_ble_eq_true rfl)) (rm_at l Z a0 hw hEL n0 x cb 0 p ja jb 0 _ (Sx.ext (keepExt K)) hB rfl (by decide) hcb) rfl rfl (by simp) (by decide) (by decide) (by decide) (by decide) rfl fun v_ h132 P133 sz134 => ?_
    obtain ⟨⟨c0, rfl, hc0⟩, e135⟩ := P133
    rw [e135]
    refine at' (ce' := 1) (sl' := 2) (pc' := 174) (L' := #[.val (.int (2 : Int32)), .val (.ref x), .val (.int p), .val (.long ja), .second, .val (.long jb), .second, .val (.ref a127)]) (S' := [(.int c0), (.int (0 : Int32)), (.ref a127)]) rfl rfl rfl rfl rfl ?_
    refine castore (pc' := 175) d_method_4_174 V130 ⟨by decide, by decide⟩ (by simp) (Nat.le_of_ble_eq_true rfl) rfl fun h136 W137 V138 => ?_
    replace K := K.wr W137 (Or.inr sz_a127)
    replace V130 : Arv Z h136 a127 kc131 .char (2 : Int32) [(.int (nar .char c0)), (.int (0 : Int32))] (.int (0 : Int32)) := V138
    refine iloadN (pc' := 176) d_method_4_175 rfl rfl ?_
    refine iconst (pc' := 177) (v := (1 : Int32)) d_method_4_176 rfl rfl ?_
    refine icmpF (pc' := 180) d_method_4_177 (by decide : (1 : Int32) < (2 : Int32)) rfl ?_
    refine aload (pc' := 182) d_method_4_180 rfl rfl rfl ?_
    refine iconst (pc' := 183) (v := (1 : Int32)) d_method_4_182 rfl rfl ?_
    refine aloadN (pc' := 184) d_method_4_183 rfl rfl rfl ?_
    refine iconst (pc' := 185) (v := (1 : Int32)) d_method_4_184 rfl rfl ?_
    refine iloadN (pc' := 186) d_method_4_185 rfl rfl ?_
    refine lloadN (pc' := 187) d_method_4_186 rfl rfl ?_
    refine lload (pc' := 189) d_method_4_187 rfl rfl ?_
    refine call (i := 29) (i2 := 24) (Wd := 2) (pc' := 192) (kStatic (i := 27) (i2 := 28) (i3 := 24) (i4 := 29) (argsL := [(.ref x), (.int (1 : Int32)), (.int p), (.long ja), (.long jb)]) (S' := [(.int (1 : Int32)), (.ref a127)]) (Wd := 2) d_method_4_189 rfl rfl rfl rfl (by decide) rfl pd_10 rfl rfl (Nat.le_of_ble_eq_true rfl)) (rm_at l Z a0 hw hEL n0 x cb 1 p ja jb 1 _ (Sx.ext (keepExt K)) hB rfl (by decide) hcb) rfl rfl (by simp) (by decide) (by decide) (by decide) (by decide) rfl fun v_ h139 P140 sz141 => ?_
    obtain ⟨⟨c1, rfl, hc1⟩, e142⟩ := P140
    rw [e142]
    refine at' (ce' := 1) (sl' := 2) (pc' := 192) (L' := #[.val (.int (2 : Int32)), .val (.ref x), .val (.int p), .val (.long ja), .second, .val (.long jb), .second, .val (.ref a127)]) (S' := [(.int c1), (.int (1 : Int32)), (.ref a127)]) rfl rfl rfl rfl rfl ?_
    refine castore (pc' := 193) d_method_4_192 V130 ⟨by decide, by decide⟩ (by simp) (Nat.le_of_ble_eq_true rfl) rfl fun h143 W144 V145 => ?_
    replace K := K.wr W144 (Or.inr sz_a127)
    replace V130 : Arv Z h143 a127 kc131 .char (2 : Int32) [(.int (nar .char c0)), (.int (nar .char c1))] (.int (0 : Int32)) := V145
    refine iloadN (pc' := 194) d_method_4_193 rfl rfl ?_
    refine iconst (pc' := 195) (v := (2 : Int32)) d_method_4_194 rfl rfl ?_
    refine icmpT (pc' := 211) d_method_4_195 (by decide : ¬ ((2 : Int32) < (2 : Int32))) (by decide) rfl ?_
    refine iloadN (pc' := 212) d_method_4_211 rfl rfl ?_
    refine iconst (pc' := 213) (v := (3 : Int32)) d_method_4_212 rfl rfl ?_
    refine icmpT (pc' := 229) d_method_4_213 (by decide : ¬ ((3 : Int32) < (2 : Int32))) (by decide) rfl ?_
    refine iloadN (pc' := 230) d_method_4_229 rfl rfl ?_
    refine iconst (pc' := 231) (v := (4 : Int32)) d_method_4_230 rfl rfl ?_
    refine icmpT (pc' := 247) d_method_4_231 (by decide : ¬ ((4 : Int32) < (2 : Int32))) (by decide) rfl ?_
    refine iloadN (pc' := 248) d_method_4_247 rfl rfl ?_
    refine iconst (pc' := 249) (v := (5 : Int32)) d_method_4_248 rfl rfl ?_
    refine icmpT (pc' := 265) d_method_4_249 (by decide : ¬ ((5 : Int32) < (2 : Int32))) (by decide) rfl ?_
    refine iloadN (pc' := 266) d_method_4_265 rfl rfl ?_
    refine bipush (pc' := 268) (v := (6 : Int32)) d_method_4_266 rfl rfl ?_
    refine icmpT (pc' := 286) d_method_4_268 (by decide : ¬ ((6 : Int32) < (2 : Int32))) (by decide) rfl ?_
    refine iloadN (pc' := 287) d_method_4_286 rfl rfl ?_
    refine bipush (pc' := 289) (v := (7 : Int32)) d_method_4_287 rfl rfl ?_
    refine icmpT (pc' := 307) d_method_4_289 (by decide : ¬ ((7 : Int32) < (2 : Int32))) (by decide) rfl ?_
    refine iloadN (pc' := 308) d_method_4_307 rfl rfl ?_
    refine bipush (pc' := 310) (v := (8 : Int32)) d_method_4_308 rfl rfl ?_
    refine icmpT (pc' := 328) d_method_4_310 (by decide : ¬ ((8 : Int32) < (2 : Int32))) (by decide) rfl ?_
    refine iloadN (pc' := 329) d_method_4_328 rfl rfl ?_
    refine bipush (pc' := 331) (v := (9 : Int32)) d_method_4_329 rfl rfl ?_
    refine icmpT (pc' := 349) d_method_4_331 (by decide : ¬ ((9 : Int32) < (2 : Int32))) (by decide) rfl ?_
    refine iloadN (pc' := 350) d_method_4_349 rfl rfl ?_
    refine bipush (pc' := 352) (v := (10 : Int32)) d_method_4_350 rfl rfl ?_
    refine icmpT (pc' := 370) d_method_4_352 (by decide : ¬ ((10 : Int32) < (2 : Int32))) (by decide) rfl ?_
    refine new (i := 52) (i2 := 2) (i3 := 1) (pc' := 373) d_method_4_370 rfl rfl rfl (by decide) (by decide) rfl fun h146 a147 g148 E149 A150 D151 => ?_
    have sz_a147 : h.size ≤ a147 := by rw [g148]; exact K.1
    have ne_a127_a147 : a127 ≠ a147 := Nat.ne_of_lt (by rw [g148]; exact V130.lt)
    replace K := K.ext E149
    replace V130 := V130.ext E149
    have F_value_a147 : Fld Z h146 a147 "java/lang/String" "value" "[B" .null := D151 (Or.inr (hw _ (List.mem_of_getElem? (i := 4) rfl))) (ty := (.array .byte)) (by decide)
    have F_coder_a147 : Fld Z h146 a147 "java/lang/String" "coder" "B" (.int (0 : Int32)) := D151 (Or.inr (hw _ (List.mem_of_getElem? (i := 5) rfl))) (ty := .byte) (by decide)
    refine dup (pc' := 374) d_method_4_373 rfl rfl ?_
    refine aload (pc' := 376) d_method_4_374 rfl rfl rfl ?_
    have Vb : Arv Z h146 a127 kc131 .char (2 : Int32) (List.map Value.int ([c0, c1] : List Int32)) (.int (0 : Int32)) := by
      have q := V130
      rw [own_nar hc0, own_nar hc1] at q; exact q
    refine strNewW (i := 2) (Wd := 1) (n := 2) (cs := ([c0, c1] : List Int32)) (pc' := 379) hB (by decide +kernel) rfl (kInit (i := 53) (i2 := 54) (i4 := 55) (a := a147) (argsL := [(.ref a127)]) (S' := [(.ref a147)]) (Wd := 1) d_method_4_376 rfl rfl rfl rfl (by decide) rfl pd_9 rfl rfl (Nat.le_of_ble_eq_true rfl)) A150 F_value_a147 F_coder_a147 Vb rfl rfl (by decide) (by intro c hc; simp only [List.mem_cons, List.not_mem_nil, or_false] at hc; rcases hc with rfl | rfl <;> assumption) (by simp) (by decide) (by decide) (by decide) (by decide) rfl fun hs Ks Ss => ?_
    replace K := K.trans Ks (allS (Or.inr sz_a147) all0)
    replace A150 := A150.keep Ks
    refine at' (ce' := 6) (sl' := 16) (pc' := 379) (L' := #[.val (.int (2 : Int32)), .val (.ref x), .val (.int p), .val (.long ja), .second, .val (.long jb), .second, .val (.ref a127)]) (S' := [(.ref a147)]) rfl rfl rfl rfl rfl ?_
    exact retA d_method_4_379 rfl rfl rfl (by decide) (by decide) ⟨a147, ([c0, c1] : List Int32), rfl, keepExt K, Ss⟩
  · skip
    refine at' (ce' := 0) (sl' := 0) (pc' := 0) (L' := #[.val (.int (3 : Int32)), .val (.ref x), .val (.int p), .val (.long ja), .second, .val (.long jb), .second, .unset]) (S' := []) rfl rfl rfl rfl rfl ?_
    refine iloadN (pc' := 1) d_method_4_0 rfl rfl ?_
    refine ifT (pc' := 12) d_method_4_1 (by decide : ¬ ((3 : Int32) = (0 : Int32))) (by decide) rfl ?_
    refine iloadN (pc' := 13) d_method_4_12 rfl rfl ?_
    refine iconst (pc' := 14) (v := (1 : Int32)) d_method_4_13 rfl rfl ?_
    refine icmpT (pc' := 25) d_method_4_14 (by decide : ¬ ((3 : Int32) = (1 : Int32))) (by decide) rfl ?_
    refine iloadN (pc' := 26) d_method_4_25 rfl rfl ?_
    refine iconst (pc' := 27) (v := (2 : Int32)) d_method_4_26 rfl rfl ?_
    refine icmpT (pc' := 38) d_method_4_27 (by decide : ¬ ((3 : Int32) = (2 : Int32))) (by decide) rfl ?_
    refine iloadN (pc' := 39) d_method_4_38 rfl rfl ?_
    refine iconst (pc' := 40) (v := (3 : Int32)) d_method_4_39 rfl rfl ?_
    refine icmpF (pc' := 43) d_method_4_40 (by decide : (3 : Int32) = (3 : Int32)) rfl ?_
    refine iconst (pc' := 44) (v := (3 : Int32)) d_method_4_43 rfl rfl ?_
    refine newarray (i := 26) (cap := 3) (ty := .char) (pc' := 46) d_method_4_44 rfl rfl (by decide) (by decide) (by decide) (by decide) (by decide) rfl fun h152 a153 kc157 g154 E155 V156 => ?_
    have sz_a153 : h.size ≤ a153 := by rw [g154]; exact K.1
    replace K := K.ext E155
    replace V156 : Arv Z h152 a153 kc157 .char (3 : Int32) [(.int (0 : Int32)), (.int (0 : Int32)), (.int (0 : Int32))] (.int (0 : Int32)) := V156.pad (pad_rep [] (.int (0 : Int32)) 3)
    refine astore (pc' := 48) (L' := #[.val (.int (3 : Int32)), .val (.ref x), .val (.int p), .val (.long ja), .second, .val (.long jb), .second, .val (.ref a153)]) d_method_4_46 rfl rfl rfl ?_
    refine goto (pc' := 158) d_method_4_48 (by decide) rfl ?_
    refine iloadN (pc' := 159) d_method_4_158 rfl rfl ?_
    refine ifF (pc' := 162) d_method_4_159 (by decide : (0 : Int32) < (3 : Int32)) rfl ?_
    refine aload (pc' := 164) d_method_4_162 rfl rfl rfl ?_
    refine iconst (pc' := 165) (v := (0 : Int32)) d_method_4_164 rfl rfl ?_
    refine aloadN (pc' := 166) d_method_4_165 rfl rfl rfl ?_
    refine iconst (pc' := 167) (v := (0 : Int32)) d_method_4_166 rfl rfl ?_
    refine iloadN (pc' := 168) d_method_4_167 rfl rfl ?_
    refine lloadN (pc' := 169) d_method_4_168 rfl rfl ?_
    refine lload (pc' := 171) d_method_4_169 rfl rfl ?_
    refine call (i := 29) (i2 := 24) (Wd := 2) (pc' := 174) (kStatic (i := 27) (i2 := 28) (i3 := 24) (i4 := 29) (argsL := [(.ref x), (.int (0 : Int32)), (.int p), (.long ja), (.long jb)]) (S' := [(.int (0 : Int32)), (.ref a153)]) (Wd := 2) d_method_4_171 rfl rfl rfl rfl (by decide) rfl pd_10 rfl rfl (Nat.le_of_ble_eq_true rfl)) (rm_at l Z a0 hw hEL n0 x cb 0 p ja jb 0 _ (Sx.ext (keepExt K)) hB rfl (by decide) hcb) rfl rfl (by simp) (by decide) (by decide) (by decide) (by decide) rfl fun v_ h158 P159 sz160 => ?_
    obtain ⟨⟨c0, rfl, hc0⟩, e161⟩ := P159
    rw [e161]
    refine at' (ce' := 1) (sl' := 3) (pc' := 174) (L' := #[.val (.int (3 : Int32)), .val (.ref x), .val (.int p), .val (.long ja), .second, .val (.long jb), .second, .val (.ref a153)]) (S' := [(.int c0), (.int (0 : Int32)), (.ref a153)]) rfl rfl rfl rfl rfl ?_
    refine castore (pc' := 175) d_method_4_174 V156 ⟨by decide, by decide⟩ (by simp) (Nat.le_of_ble_eq_true rfl) rfl fun h162 W163 V164 => ?_
    replace K := K.wr W163 (Or.inr sz_a153)
    replace V156 : Arv Z h162 a153 kc157 .char (3 : Int32) [(.int (nar .char c0)), (.int (0 : Int32)), (.int (0 : Int32))] (.int (0 : Int32)) := V164
    refine iloadN (pc' := 176) d_method_4_175 rfl rfl ?_
    refine iconst (pc' := 177) (v := (1 : Int32)) d_method_4_176 rfl rfl ?_
    refine icmpF (pc' := 180) d_method_4_177 (by decide : (1 : Int32) < (3 : Int32)) rfl ?_
    refine aload (pc' := 182) d_method_4_180 rfl rfl rfl ?_
    refine iconst (pc' := 183) (v := (1 : Int32)) d_method_4_182 rfl rfl ?_
    refine aloadN (pc' := 184) d_method_4_183 rfl rfl rfl ?_
    refine iconst (pc' := 185) (v := (1 : Int32)) d_method_4_184 rfl rfl ?_
    refine iloadN (pc' := 186) d_method_4_185 rfl rfl ?_
    refine lloadN (pc' := 187) d_method_4_186 rfl rfl ?_
    refine lload (pc' := 189) d_method_4_187 rfl rfl ?_
    refine call (i := 29) (i2 := 24) (Wd := 2) (pc' := 192) (kStatic (i := 27) (i2 := 28) (i3 := 24) (i4 := 29) (argsL := [(.ref x), (.int (1 : Int32)), (.int p), (.long ja), (.long jb)]) (S' := [(.int (1 : Int32)), (.ref a153)]) (Wd := 2) d_method_4_189 rfl rfl rfl rfl (by decide) rfl pd_10 rfl rfl (Nat.le_of_ble_eq_true rfl)) (rm_at l Z a0 hw hEL n0 x cb 1 p ja jb 1 _ (Sx.ext (keepExt K)) hB rfl (by decide) hcb) rfl rfl (by simp) (by decide) (by decide) (by decide) (by decide) rfl fun v_ h165 P166 sz167 => ?_
    obtain ⟨⟨c1, rfl, hc1⟩, e168⟩ := P166
    rw [e168]
    refine at' (ce' := 1) (sl' := 3) (pc' := 192) (L' := #[.val (.int (3 : Int32)), .val (.ref x), .val (.int p), .val (.long ja), .second, .val (.long jb), .second, .val (.ref a153)]) (S' := [(.int c1), (.int (1 : Int32)), (.ref a153)]) rfl rfl rfl rfl rfl ?_
    refine castore (pc' := 193) d_method_4_192 V156 ⟨by decide, by decide⟩ (by simp) (Nat.le_of_ble_eq_true rfl) rfl fun h169 W170 V171 => ?_
    replace K := K.wr W170 (Or.inr sz_a153)
    replace V156 : Arv Z h169 a153 kc157 .char (3 : Int32) [(.int (nar .char c0)), (.int (nar .char c1)), (.int (0 : Int32))] (.int (0 : Int32)) := V171
    refine iloadN (pc' := 194) d_method_4_193 rfl rfl ?_
    refine iconst (pc' := 195) (v := (2 : Int32)) d_method_4_194 rfl rfl ?_
    refine icmpF (pc' := 198) d_method_4_195 (by decide : (2 : Int32) < (3 : Int32)) rfl ?_
    refine aload (pc' := 200) d_method_4_198 rfl rfl rfl ?_
    refine iconst (pc' := 201) (v := (2 : Int32)) d_method_4_200 rfl rfl ?_
    refine aloadN (pc' := 202) d_method_4_201 rfl rfl rfl ?_
    refine iconst (pc' := 203) (v := (2 : Int32)) d_method_4_202 rfl rfl ?_
    refine iloadN (pc' := 204) d_method_4_203 rfl rfl ?_
    refine lloadN (pc' := 205) d_method_4_204 rfl rfl ?_
    refine lload (pc' := 207) d_method_4_205 rfl rfl ?_
    refine call (i := 29) (i2 := 24) (Wd := 2) (pc' := 210) (kStatic (i := 27) (i2 := 28) (i3 := 24) (i4 := 29) (argsL := [(.ref x), (.int (2 : Int32)), (.int p), (.long ja), (.long jb)]) (S' := [(.int (2 : Int32)), (.ref a153)]) (Wd := 2) d_method_4_207 rfl rfl rfl rfl (by decide) rfl pd_10 rfl rfl (Nat.le_of_ble_eq_true rfl)) (rm_at l Z a0 hw hEL n0 x cb 2 p ja jb 2 _ (Sx.ext (keepExt K)) hB rfl (by decide) hcb) rfl rfl (by simp) (by decide) (by decide) (by decide) (by decide) rfl fun v_ h172 P173 sz174 => ?_
    obtain ⟨⟨c2, rfl, hc2⟩, e175⟩ := P173
    rw [e175]
    refine at' (ce' := 1) (sl' := 3) (pc' := 210) (L' := #[.val (.int (3 : Int32)), .val (.ref x), .val (.int p), .val (.long ja), .second, .val (.long jb), .second, .val (.ref a153)]) (S' := [(.int c2), (.int (2 : Int32)), (.ref a153)]) rfl rfl rfl rfl rfl ?_
    refine castore (pc' := 211) d_method_4_210 V156 ⟨by decide, by decide⟩ (by simp) (Nat.le_of_ble_eq_true rfl) rfl fun h176 W177 V178 => ?_
    replace K := K.wr W177 (Or.inr sz_a153)
    replace V156 : Arv Z h176 a153 kc157 .char (3 : Int32) [(.int (nar .char c0)), (.int (nar .char c1)), (.int (nar .char c2))] (.int (0 : Int32)) := V178
    refine iloadN (pc' := 212) d_method_4_211 rfl rfl ?_
    refine iconst (pc' := 213) (v := (3 : Int32)) d_method_4_212 rfl rfl ?_
    refine icmpT (pc' := 229) d_method_4_213 (by decide : ¬ ((3 : Int32) < (3 : Int32))) (by decide) rfl ?_
    refine iloadN (pc' := 230) d_method_4_229 rfl rfl ?_
    refine iconst (pc' := 231) (v := (4 : Int32)) d_method_4_230 rfl rfl ?_
    refine icmpT (pc' := 247) d_method_4_231 (by decide : ¬ ((4 : Int32) < (3 : Int32))) (by decide) rfl ?_
    refine iloadN (pc' := 248) d_method_4_247 rfl rfl ?_
    refine iconst (pc' := 249) (v := (5 : Int32)) d_method_4_248 rfl rfl ?_
    refine icmpT (pc' := 265) d_method_4_249 (by decide : ¬ ((5 : Int32) < (3 : Int32))) (by decide) rfl ?_
    refine iloadN (pc' := 266) d_method_4_265 rfl rfl ?_
    refine bipush (pc' := 268) (v := (6 : Int32)) d_method_4_266 rfl rfl ?_
    refine icmpT (pc' := 286) d_method_4_268 (by decide : ¬ ((6 : Int32) < (3 : Int32))) (by decide) rfl ?_
    refine iloadN (pc' := 287) d_method_4_286 rfl rfl ?_
    refine bipush (pc' := 289) (v := (7 : Int32)) d_method_4_287 rfl rfl ?_
    refine icmpT (pc' := 307) d_method_4_289 (by decide : ¬ ((7 : Int32) < (3 : Int32))) (by decide) rfl ?_
    refine iloadN (pc' := 308) d_method_4_307 rfl rfl ?_
    refine bipush (pc' := 310) (v := (8 : Int32)) d_method_4_308 rfl rfl ?_
    refine icmpT (pc' := 328) d_method_4_310 (by decide : ¬ ((8 : Int32) < (3 : Int32))) (by decide) rfl ?_
    refine iloadN (pc' := 329) d_method_4_328 rfl rfl ?_
    refine bipush (pc' := 331) (v := (9 : Int32)) d_method_4_329 rfl rfl ?_
    refine icmpT (pc' := 349) d_method_4_331 (by decide : ¬ ((9 : Int32) < (3 : Int32))) (by decide) rfl ?_
    refine iloadN (pc' := 350) d_method_4_349 rfl rfl ?_
    refine bipush (pc' := 352) (v := (10 : Int32)) d_method_4_350 rfl rfl ?_
    refine icmpT (pc' := 370) d_method_4_352 (by decide : ¬ ((10 : Int32) < (3 : Int32))) (by decide) rfl ?_
    refine new (i := 52) (i2 := 2) (i3 := 1) (pc' := 373) d_method_4_370 rfl rfl rfl (by decide) (by decide) rfl fun h179 a180 g181 E182 A183 D184 => ?_
    have sz_a180 : h.size ≤ a180 := by rw [g181]; exact K.1
    have ne_a153_a180 : a153 ≠ a180 := Nat.ne_of_lt (by rw [g181]; exact V156.lt)
    replace K := K.ext E182
    replace V156 := V156.ext E182
    have F_value_a180 : Fld Z h179 a180 "java/lang/String" "value" "[B" .null := D184 (Or.inr (hw _ (List.mem_of_getElem? (i := 4) rfl))) (ty := (.array .byte)) (by decide)
    have F_coder_a180 : Fld Z h179 a180 "java/lang/String" "coder" "B" (.int (0 : Int32)) := D184 (Or.inr (hw _ (List.mem_of_getElem? (i := 5) rfl))) (ty := .byte) (by decide)
    refine dup (pc' := 374) d_method_4_373 rfl rfl ?_
    refine aload (pc' := 376) d_method_4_374 rfl rfl rfl ?_
    have Vb : Arv Z h179 a153 kc157 .char (3 : Int32) (List.map Value.int ([c0, c1, c2] : List Int32)) (.int (0 : Int32)) := by
      have q := V156
      rw [own_nar hc0, own_nar hc1, own_nar hc2] at q; exact q
    refine strNewW (i := 2) (Wd := 1) (n := 3) (cs := ([c0, c1, c2] : List Int32)) (pc' := 379) hB (by decide +kernel) rfl (kInit (i := 53) (i2 := 54) (i4 := 55) (a := a180) (argsL := [(.ref a153)]) (S' := [(.ref a180)]) (Wd := 1) d_method_4_376 rfl rfl rfl rfl (by decide) rfl pd_9 rfl rfl (Nat.le_of_ble_eq_true rfl)) A183 F_value_a180 F_coder_a180 Vb rfl rfl (by decide) (by intro c hc; simp only [List.mem_cons, List.not_mem_nil, or_false] at hc; rcases hc with rfl | rfl | rfl <;> assumption) (by simp) (by decide) (by decide) (by decide) (by decide) rfl fun hs Ks Ss => ?_
    replace K := K.trans Ks (allS (Or.inr sz_a180) all0)
    replace A183 := A183.keep Ks
    refine at' (ce' := 6) (sl' := 18) (pc' := 379) (L' := #[.val (.int (3 : Int32)), .val (.ref x), .val (.int p), .val (.long ja), .second, .val (.long jb), .second, .val (.ref a153)]) (S' := [(.ref a180)]) rfl rfl rfl rfl rfl ?_
    exact retA d_method_4_379 rfl rfl rfl (by decide) (by decide) ⟨a180, ([c0, c1, c2] : List Int32), rfl, keepExt K, Ss⟩
  · skip
    refine at' (ce' := 0) (sl' := 0) (pc' := 0) (L' := #[.val (.int (4 : Int32)), .val (.ref x), .val (.int p), .val (.long ja), .second, .val (.long jb), .second, .unset]) (S' := []) rfl rfl rfl rfl rfl ?_
    refine iloadN (pc' := 1) d_method_4_0 rfl rfl ?_
    refine ifT (pc' := 12) d_method_4_1 (by decide : ¬ ((4 : Int32) = (0 : Int32))) (by decide) rfl ?_
    refine iloadN (pc' := 13) d_method_4_12 rfl rfl ?_
    refine iconst (pc' := 14) (v := (1 : Int32)) d_method_4_13 rfl rfl ?_
    refine icmpT (pc' := 25) d_method_4_14 (by decide : ¬ ((4 : Int32) = (1 : Int32))) (by decide) rfl ?_
    refine iloadN (pc' := 26) d_method_4_25 rfl rfl ?_
    refine iconst (pc' := 27) (v := (2 : Int32)) d_method_4_26 rfl rfl ?_
    refine icmpT (pc' := 38) d_method_4_27 (by decide : ¬ ((4 : Int32) = (2 : Int32))) (by decide) rfl ?_
    refine iloadN (pc' := 39) d_method_4_38 rfl rfl ?_
    refine iconst (pc' := 40) (v := (3 : Int32)) d_method_4_39 rfl rfl ?_
    refine icmpT (pc' := 51) d_method_4_40 (by decide : ¬ ((4 : Int32) = (3 : Int32))) (by decide) rfl ?_
    refine iloadN (pc' := 52) d_method_4_51 rfl rfl ?_
    refine iconst (pc' := 53) (v := (4 : Int32)) d_method_4_52 rfl rfl ?_
    refine icmpF (pc' := 56) d_method_4_53 (by decide : (4 : Int32) = (4 : Int32)) rfl ?_
    refine iconst (pc' := 57) (v := (4 : Int32)) d_method_4_56 rfl rfl ?_
    refine newarray (i := 26) (cap := 4) (ty := .char) (pc' := 59) d_method_4_57 rfl rfl (by decide) (by decide) (by decide) (by decide) (by decide) rfl fun h185 a186 kc190 g187 E188 V189 => ?_
    have sz_a186 : h.size ≤ a186 := by rw [g187]; exact K.1
    replace K := K.ext E188
    replace V189 : Arv Z h185 a186 kc190 .char (4 : Int32) [(.int (0 : Int32)), (.int (0 : Int32)), (.int (0 : Int32)), (.int (0 : Int32))] (.int (0 : Int32)) := V189.pad (pad_rep [] (.int (0 : Int32)) 4)
    refine astore (pc' := 61) (L' := #[.val (.int (4 : Int32)), .val (.ref x), .val (.int p), .val (.long ja), .second, .val (.long jb), .second, .val (.ref a186)]) d_method_4_59 rfl rfl rfl ?_
    refine goto (pc' := 158) d_method_4_61 (by decide) rfl ?_
    refine iloadN (pc' := 159) d_method_4_158 rfl rfl ?_
    refine ifF (pc' := 162) d_method_4_159 (by decide : (0 : Int32) < (4 : Int32)) rfl ?_
    refine aload (pc' := 164) d_method_4_162 rfl rfl rfl ?_
    refine iconst (pc' := 165) (v := (0 : Int32)) d_method_4_164 rfl rfl ?_
    refine aloadN (pc' := 166) d_method_4_165 rfl rfl rfl ?_
    refine iconst (pc' := 167) (v := (0 : Int32)) d_method_4_166 rfl rfl ?_
    refine iloadN (pc' := 168) d_method_4_167 rfl rfl ?_
    refine lloadN (pc' := 169) d_method_4_168 rfl rfl ?_
    refine lload (pc' := 171) d_method_4_169 rfl rfl ?_
    refine call (i := 29) (i2 := 24) (Wd := 2) (pc' := 174) (kStatic (i := 27) (i2 := 28) (i3 := 24) (i4 := 29) (argsL := [(.ref x), (.int (0 : Int32)), (.int p), (.long ja), (.long jb)]) (S' := [(.int (0 : Int32)), (.ref a186)]) (Wd := 2) d_method_4_171 rfl rfl rfl rfl (by decide) rfl pd_10 rfl rfl (Nat.le_of_ble_eq_true rfl)) (rm_at l Z a0 hw hEL n0 x cb 0 p ja jb 0 _ (Sx.ext (keepExt K)) hB rfl (by decide) hcb) rfl rfl (by simp) (by decide) (by decide) (by decide) (by decide) rfl fun v_ h191 P192 sz193 => ?_
    obtain ⟨⟨c0, rfl, hc0⟩, e194⟩ := P192
    rw [e194]
    refine at' (ce' := 1) (sl' := 4) (pc' := 174) (L' := #[.val (.int (4 : Int32)), .val (.ref x), .val (.int p), .val (.long ja), .second, .val (.long jb), .second, .val (.ref a186)]) (S' := [(.int c0), (.int (0 : Int32)), (.ref a186)]) rfl rfl rfl rfl rfl ?_
    refine castore (pc' := 175) d_method_4_174 V189 ⟨by decide, by decide⟩ (by simp) (Nat.le_of_ble_eq_true rfl) rfl fun h195 W196 V197 => ?_
    replace K := K.wr W196 (Or.inr sz_a186)
    replace V189 : Arv Z h195 a186 kc190 .char (4 : Int32) [(.int (nar .char c0)), (.int (0 : Int32)), (.int (0 : Int32)), (.int (0 : Int32))] (.int (0 : Int32)) := V197
    refine iloadN (pc' := 176) d_method_4_175 rfl rfl ?_
    refine iconst (pc' := 177) (v := (1 : Int32)) d_method_4_176 rfl rfl ?_
    refine icmpF (pc' := 180) d_method_4_177 (by decide : (1 : Int32) < (4 : Int32)) rfl ?_
    refine aload (pc' := 182) d_method_4_180 rfl rfl rfl ?_
    refine iconst (pc' := 183) (v := (1 : Int32)) d_method_4_182 rfl rfl ?_
    refine aloadN (pc' := 184) d_method_4_183 rfl rfl rfl ?_
    refine iconst (pc' := 185) (v := (1 : Int32)) d_method_4_184 rfl rfl ?_
    refine iloadN (pc' := 186) d_method_4_185 rfl rfl ?_
    refine lloadN (pc' := 187) d_method_4_186 rfl rfl ?_
    refine lload (pc' := 189) d_method_4_187 rfl rfl ?_
    refine call (i := 29) (i2 := 24) (Wd := 2) (pc' := 192) (kStatic (i := 27) (i2 := 28) (i3 := 24) (i4 := 29) (argsL := [(.ref x), (.int (1 : Int32)), (.int p), (.long ja), (.long jb)]) (S' := [(.int (1 : Int32)), (.ref a186)]) (Wd := 2) d_method_4_189 rfl rfl rfl rfl (by decide) rfl pd_10 rfl rfl (Nat.le_of_ble_eq_true rfl)) (rm_at l Z a0 hw hEL n0 x cb 1 p ja jb 1 _ (Sx.ext (keepExt K)) hB rfl (by decide) hcb) rfl rfl (by simp) (by decide) (by decide) (by decide) (by decide) rfl fun v_ h198 P199 sz200 => ?_
    obtain ⟨⟨c1, rfl, hc1⟩, e201⟩ := P199
    rw [e201]
    refine at' (ce' := 1) (sl' := 4) (pc' := 192) (L' := #[.val (.int (4 : Int32)), .val (.ref x), .val (.int p), .val (.long ja), .second, .val (.long jb), .second, .val (.ref a186)]) (S' := [(.int c1), (.int (1 : Int32)), (.ref a186)]) rfl rfl rfl rfl rfl ?_
    refine castore (pc' := 193) d_method_4_192 V189 ⟨by decide, by decide⟩ (by simp) (Nat.le_of_ble_eq_true rfl) rfl fun h202 W203 V204 => ?_
    replace K := K.wr W203 (Or.inr sz_a186)
    replace V189 : Arv Z h202 a186 kc190 .char (4 : Int32) [(.int (nar .char c0)), (.int (nar .char c1)), (.int (0 : Int32)), (.int (0 : Int32))] (.int (0 : Int32)) := V204
    refine iloadN (pc' := 194) d_method_4_193 rfl rfl ?_
    refine iconst (pc' := 195) (v := (2 : Int32)) d_method_4_194 rfl rfl ?_
    refine icmpF (pc' := 198) d_method_4_195 (by decide : (2 : Int32) < (4 : Int32)) rfl ?_
    refine aload (pc' := 200) d_method_4_198 rfl rfl rfl ?_
    refine iconst (pc' := 201) (v := (2 : Int32)) d_method_4_200 rfl rfl ?_
    refine aloadN (pc' := 202) d_method_4_201 rfl rfl rfl ?_
    refine iconst (pc' := 203) (v := (2 : Int32)) d_method_4_202 rfl rfl ?_
    refine iloadN (pc' := 204) d_method_4_203 rfl rfl ?_
    refine lloadN (pc' := 205) d_method_4_204 rfl rfl ?_
    refine lload (pc' := 207) d_method_4_205 rfl rfl ?_
    refine call (i := 29) (i2 := 24) (Wd := 2) (pc' := 210) (kStatic (i := 27) (i2 := 28) (i3 := 24) (i4 := 29) (argsL := [(.ref x), (.int (2 : Int32)), (.int p), (.long ja), (.long jb)]) (S' := [(.int (2 : Int32)), (.ref a186)]) (Wd := 2) d_method_4_207 rfl rfl rfl rfl (by decide) rfl pd_10 rfl rfl (Nat.le_of_ble_eq_true rfl)) (rm_at l Z a0 hw hEL n0 x cb 2 p ja jb 2 _ (Sx.ext (keepExt K)) hB rfl (by decide) hcb) rfl rfl (by simp) (by decide) (by decide) (by decide) (by decide) rfl fun v_ h205 P206 sz207 => ?_
    obtain ⟨⟨c2, rfl, hc2⟩, e208⟩ := P206
    rw [e208]
    refine at' (ce' := 1) (sl' := 4) (pc' := 210) (L' := #[.val (.int (4 : Int32)), .val (.ref x), .val (.int p), .val (.long ja), .second, .val (.long jb), .second, .val (.ref a186)]) (S' := [(.int c2), (.int (2 : Int32)), (.ref a186)]) rfl rfl rfl rfl rfl ?_
    refine castore (pc' := 211) d_method_4_210 V189 ⟨by decide, by decide⟩ (by simp) (Nat.le_of_ble_eq_true rfl) rfl fun h209 W210 V211 => ?_
    replace K := K.wr W210 (Or.inr sz_a186)
    replace V189 : Arv Z h209 a186 kc190 .char (4 : Int32) [(.int (nar .char c0)), (.int (nar .char c1)), (.int (nar .char c2)), (.int (0 : Int32))] (.int (0 : Int32)) := V211
    refine iloadN (pc' := 212) d_method_4_211 rfl rfl ?_
    refine iconst (pc' := 213) (v := (3 : Int32)) d_method_4_212 rfl rfl ?_
    refine icmpF (pc' := 216) d_method_4_213 (by decide : (3 : Int32) < (4 : Int32)) rfl ?_
    refine aload (pc' := 218) d_method_4_216 rfl rfl rfl ?_
    refine iconst (pc' := 219) (v := (3 : Int32)) d_method_4_218 rfl rfl ?_
    refine aloadN (pc' := 220) d_method_4_219 rfl rfl rfl ?_
    refine iconst (pc' := 221) (v := (3 : Int32)) d_method_4_220 rfl rfl ?_
    refine iloadN (pc' := 222) d_method_4_221 rfl rfl ?_
    refine lloadN (pc' := 223) d_method_4_222 rfl rfl ?_
    refine lload (pc' := 225) d_method_4_223 rfl rfl ?_
    refine call (i := 29) (i2 := 24) (Wd := 2) (pc' := 228) (kStatic (i := 27) (i2 := 28) (i3 := 24) (i4 := 29) (argsL := [(.ref x), (.int (3 : Int32)), (.int p), (.long ja), (.long jb)]) (S' := [(.int (3 : Int32)), (.ref a186)]) (Wd := 2) d_method_4_225 rfl rfl rfl rfl (by decide) rfl pd_10 rfl rfl (Nat.le_of_ble_eq_true rfl)) (rm_at l Z a0 hw hEL n0 x cb 3 p ja jb 3 _ (Sx.ext (keepExt K)) hB rfl (by decide) hcb) rfl rfl (by simp) (by decide) (by decide) (by decide) (by decide) rfl fun v_ h212 P213 sz214 => ?_
    obtain ⟨⟨c3, rfl, hc3⟩, e215⟩ := P213
    rw [e215]
    refine at' (ce' := 1) (sl' := 4) (pc' := 228) (L' := #[.val (.int (4 : Int32)), .val (.ref x), .val (.int p), .val (.long ja), .second, .val (.long jb), .second, .val (.ref a186)]) (S' := [(.int c3), (.int (3 : Int32)), (.ref a186)]) rfl rfl rfl rfl rfl ?_
    refine castore (pc' := 229) d_method_4_228 V189 ⟨by decide, by decide⟩ (by simp) (Nat.le_of_ble_eq_true rfl) rfl fun h216 W217 V218 => ?_
    replace K := K.wr W217 (Or.inr sz_a186)
    replace V189 : Arv Z h216 a186 kc190 .char (4 : Int32) [(.int (nar .char c0)), (.int (nar .char c1)), (.int (nar .char c2)), (.int (nar .char c3))] (.int (0 : Int32)) := V218
    refine iloadN (pc' := 230) d_method_4_229 rfl rfl ?_
    refine iconst (pc' := 231) (v := (4 : Int32)) d_method_4_230 rfl rfl ?_
    refine icmpT (pc' := 247) d_method_4_231 (by decide : ¬ ((4 : Int32) < (4 : Int32))) (by decide) rfl ?_
    refine iloadN (pc' := 248) d_method_4_247 rfl rfl ?_
    refine iconst (pc' := 249) (v := (5 : Int32)) d_method_4_248 rfl rfl ?_
    refine icmpT (pc' := 265) d_method_4_249 (by decide : ¬ ((5 : Int32) < (4 : Int32))) (by decide) rfl ?_
    refine iloadN (pc' := 266) d_method_4_265 rfl rfl ?_
    refine bipush (pc' := 268) (v := (6 : Int32)) d_method_4_266 rfl rfl ?_
    refine icmpT (pc' := 286) d_method_4_268 (by decide : ¬ ((6 : Int32) < (4 : Int32))) (by decide) rfl ?_
    refine iloadN (pc' := 287) d_method_4_286 rfl rfl ?_
    refine bipush (pc' := 289) (v := (7 : Int32)) d_method_4_287 rfl rfl ?_
    refine icmpT (pc' := 307) d_method_4_289 (by decide : ¬ ((7 : Int32) < (4 : Int32))) (by decide) rfl ?_
    refine iloadN (pc' := 308) d_method_4_307 rfl rfl ?_
    refine bipush (pc' := 310) (v := (8 : Int32)) d_method_4_308 rfl rfl ?_
    refine icmpT (pc' := 328) d_method_4_310 (by decide : ¬ ((8 : Int32) < (4 : Int32))) (by decide) rfl ?_
    refine iloadN (pc' := 329) d_method_4_328 rfl rfl ?_
    refine bipush (pc' := 331) (v := (9 : Int32)) d_method_4_329 rfl rfl ?_
    refine icmpT (pc' := 349) d_method_4_331 (by decide : ¬ ((9 : Int32) < (4 : Int32))) (by decide) rfl ?_
    refine iloadN (pc' := 350) d_method_4_349 rfl rfl ?_
    refine bipush (pc' := 352) (v := (10 : Int32)) d_method_4_350 rfl rfl ?_
    refine icmpT (pc' := 370) d_method_4_352 (by decide : ¬ ((10 : Int32) < (4 : Int32))) (by decide) rfl ?_
    refine new (i := 52) (i2 := 2) (i3 := 1) (pc' := 373) d_method_4_370 rfl rfl rfl (by decide) (by decide) rfl fun h219 a220 g221 E222 A223 D224 => ?_
    have sz_a220 : h.size ≤ a220 := by rw [g221]; exact K.1
    have ne_a186_a220 : a186 ≠ a220 := Nat.ne_of_lt (by rw [g221]; exact V189.lt)
    replace K := K.ext E222
    replace V189 := V189.ext E222
    have F_value_a220 : Fld Z h219 a220 "java/lang/String" "value" "[B" .null := D224 (Or.inr (hw _ (List.mem_of_getElem? (i := 4) rfl))) (ty := (.array .byte)) (by decide)
    have F_coder_a220 : Fld Z h219 a220 "java/lang/String" "coder" "B" (.int (0 : Int32)) := D224 (Or.inr (hw _ (List.mem_of_getElem? (i := 5) rfl))) (ty := .byte) (by decide)
    refine dup (pc' := 374) d_method_4_373 rfl rfl ?_
    refine aload (pc' := 376) d_method_4_374 rfl rfl rfl ?_
    have Vb : Arv Z h219 a186 kc190 .char (4 : Int32) (List.map Value.int ([c0, c1, c2, c3] : List Int32)) (.int (0 : Int32)) := by
      have q := V189
      rw [own_nar hc0, own_nar hc1, own_nar hc2, own_nar hc3] at q; exact q
    refine strNewW (i := 2) (Wd := 1) (n := 4) (cs := ([c0, c1, c2, c3] : List Int32)) (pc' := 379) hB (by decide +kernel) rfl (kInit (i := 53) (i2 := 54) (i4 := 55) (a := a220) (argsL := [(.ref a186)]) (S' := [(.ref a220)]) (Wd := 1) d_method_4_376 rfl rfl rfl rfl (by decide) rfl pd_9 rfl rfl (Nat.le_of_ble_eq_true rfl)) A223 F_value_a220 F_coder_a220 Vb rfl rfl (by decide) (by intro c hc; simp only [List.mem_cons, List.not_mem_nil, or_false] at hc; rcases hc with rfl | rfl | rfl | rfl <;> assumption) (by simp) (by decide) (by decide) (by decide) (by decide) rfl fun hs Ks Ss => ?_
    replace K := K.trans Ks (allS (Or.inr sz_a220) all0)
    replace A223 := A223.keep Ks
    refine at' (ce' := 6) (sl' := 20) (pc' := 379) (L' := #[.val (.int (4 : Int32)), .val (.ref x), .val (.int p), .val (.long ja), .second, .val (.long jb), .second, .val (.ref a186)]) (S' := [(.ref a220)]) rfl rfl rfl rfl rfl ?_
    exact retA d_method_4_379 rfl rfl rfl (by decide) (by decide) ⟨a220, ([c0, c1, c2, c3] : List Int32), rfl, keepExt K, Ss⟩
  · skip
    refine at' (ce' := 0) (sl' := 0) (pc' := 0) (L' := #[.val (.int (5 : Int32)), .val (.ref x), .val (.int p), .val (.long ja), .second, .val (.long jb), .second, .unset]) (S' := []) rfl rfl rfl rfl rfl ?_
    refine iloadN (pc' := 1) d_method_4_0 rfl rfl ?_
    refine ifT (pc' := 12) d_method_4_1 (by decide : ¬ ((5 : Int32) = (0 : Int32))) (by decide) rfl ?_
    refine iloadN (pc' := 13) d_method_4_12 rfl rfl ?_
    refine iconst (pc' := 14) (v := (1 : Int32)) d_method_4_13 rfl rfl ?_
    refine icmpT (pc' := 25) d_method_4_14 (by decide : ¬ ((5 : Int32) = (1 : Int32))) (by decide) rfl ?_
    refine iloadN (pc' := 26) d_method_4_25 rfl rfl ?_
    refine iconst (pc' := 27) (v := (2 : Int32)) d_method_4_26 rfl rfl ?_
    refine icmpT (pc' := 38) d_method_4_27 (by decide : ¬ ((5 : Int32) = (2 : Int32))) (by decide) rfl ?_
    refine iloadN (pc' := 39) d_method_4_38 rfl rfl ?_
    refine iconst (pc' := 40) (v := (3 : Int32)) d_method_4_39 rfl rfl ?_
    refine icmpT (pc' := 51) d_method_4_40 (by decide : ¬ ((5 : Int32) = (3 : Int32))) (by decide) rfl ?_
    refine iloadN (pc' := 52) d_method_4_51 rfl rfl ?_
    refine iconst (pc' := 53) (v := (4 : Int32)) d_method_4_52 rfl rfl ?_
    refine icmpT (pc' := 64) d_method_4_53 (by decide : ¬ ((5 : Int32) = (4 : Int32))) (by decide) rfl ?_
    refine iloadN (pc' := 65) d_method_4_64 rfl rfl ?_
    refine iconst (pc' := 66) (v := (5 : Int32)) d_method_4_65 rfl rfl ?_
    refine icmpF (pc' := 69) d_method_4_66 (by decide : (5 : Int32) = (5 : Int32)) rfl ?_
    refine iconst (pc' := 70) (v := (5 : Int32)) d_method_4_69 rfl rfl ?_
    refine newarray (i := 26) (cap := 5) (ty := .char) (pc' := 72) d_method_4_70 rfl rfl (by decide) (by decide) (by decide) (by decide) (by decide) rfl fun h225 a226 kc230 g227 E228 V229 => ?_
    have sz_a226 : h.size ≤ a226 := by rw [g227]; exact K.1
    replace K := K.ext E228
    replace V229 : Arv Z h225 a226 kc230 .char (5 : Int32) [(.int (0 : Int32)), (.int (0 : Int32)), (.int (0 : Int32)), (.int (0 : Int32)), (.int (0 : Int32))] (.int (0 : Int32)) := V229.pad (pad_rep [] (.int (0 : Int32)) 5)
    refine astore (pc' := 74) (L' := #[.val (.int (5 : Int32)), .val (.ref x), .val (.int p), .val (.long ja), .second, .val (.long jb), .second, .val (.ref a226)]) d_method_4_72 rfl rfl rfl ?_
    refine goto (pc' := 158) d_method_4_74 (by decide) rfl ?_
    refine iloadN (pc' := 159) d_method_4_158 rfl rfl ?_
    refine ifF (pc' := 162) d_method_4_159 (by decide : (0 : Int32) < (5 : Int32)) rfl ?_
    refine aload (pc' := 164) d_method_4_162 rfl rfl rfl ?_
    refine iconst (pc' := 165) (v := (0 : Int32)) d_method_4_164 rfl rfl ?_
    refine aloadN (pc' := 166) d_method_4_165 rfl rfl rfl ?_
    refine iconst (pc' := 167) (v := (0 : Int32)) d_method_4_166 rfl rfl ?_
    refine iloadN (pc' := 168) d_method_4_167 rfl rfl ?_
    refine lloadN (pc' := 169) d_method_4_168 rfl rfl ?_
    refine lload (pc' := 171) d_method_4_169 rfl rfl ?_
    refine call (i := 29) (i2 := 24) (Wd := 2) (pc' := 174) (kStatic (i := 27) (i2 := 28) (i3 := 24) (i4 := 29) (argsL := [(.ref x), (.int (0 : Int32)), (.int p), (.long ja), (.long jb)]) (S' := [(.int (0 : Int32)), (.ref a226)]) (Wd := 2) d_method_4_171 rfl rfl rfl rfl (by decide) rfl pd_10 rfl rfl (Nat.le_of_ble_eq_true rfl)) (rm_at l Z a0 hw hEL n0 x cb 0 p ja jb 0 _ (Sx.ext (keepExt K)) hB rfl (by decide) hcb) rfl rfl (by simp) (by decide) (by decide) (by decide) (by decide) rfl fun v_ h231 P232 sz233 => ?_
    obtain ⟨⟨c0, rfl, hc0⟩, e234⟩ := P232
    rw [e234]
    refine at' (ce' := 1) (sl' := 5) (pc' := 174) (L' := #[.val (.int (5 : Int32)), .val (.ref x), .val (.int p), .val (.long ja), .second, .val (.long jb), .second, .val (.ref a226)]) (S' := [(.int c0), (.int (0 : Int32)), (.ref a226)]) rfl rfl rfl rfl rfl ?_
    refine castore (pc' := 175) d_method_4_174 V229 ⟨by decide, by decide⟩ (by simp) (Nat.le_of_ble_eq_true rfl) rfl fun h235 W236 V237 => ?_
    replace K := K.wr W236 (Or.inr sz_a226)
    replace V229 : Arv Z h235 a226 kc230 .char (5 : Int32) [(.int (nar .char c0)), (.int (0 : Int32)), (.int (0 : Int32)), (.int (0 : Int32)), (.int (0 : Int32))] (.int (0 : Int32)) := V237
    refine iloadN (pc' := 176) d_method_4_175 rfl rfl ?_
    refine iconst (pc' := 177) (v := (1 : Int32)) d_method_4_176 rfl rfl ?_
    refine icmpF (pc' := 180) d_method_4_177 (by decide : (1 : Int32) < (5 : Int32)) rfl ?_
    refine aload (pc' := 182) d_method_4_180 rfl rfl rfl ?_
    refine iconst (pc' := 183) (v := (1 : Int32)) d_method_4_182 rfl rfl ?_
    refine aloadN (pc' := 184) d_method_4_183 rfl rfl rfl ?_
    refine iconst (pc' := 185) (v := (1 : Int32)) d_method_4_184 rfl rfl ?_
    refine iloadN (pc' := 186) d_method_4_185 rfl rfl ?_
    refine lloadN (pc' := 187) d_method_4_186 rfl rfl ?_
    refine lload (pc' := 189) d_method_4_187 rfl rfl ?_
    refine call (i := 29) (i2 := 24) (Wd := 2) (pc' := 192) (kStatic (i := 27) (i2 := 28) (i3 := 24) (i4 := 29) (argsL := [(.ref x), (.int (1 : Int32)), (.int p), (.long ja), (.long jb)]) (S' := [(.int (1 : Int32)), (.ref a226)]) (Wd := 2) d_method_4_189 rfl rfl rfl rfl (by decide) rfl pd_10 rfl rfl (Nat.le_of_ble_eq_true rfl)) (rm_at l Z a0 hw hEL n0 x cb 1 p ja jb 1 _ (Sx.ext (keepExt K)) hB rfl (by decide) hcb) rfl rfl (by simp) (by decide) (by decide) (by decide) (by decide) rfl fun v_ h238 P239 sz240 => ?_
    obtain ⟨⟨c1, rfl, hc1⟩, e241⟩ := P239
    rw [e241]
    refine at' (ce' := 1) (sl' := 5) (pc' := 192) (L' := #[.val (.int (5 : Int32)), .val (.ref x), .val (.int p), .val (.long ja), .second, .val (.long jb), .second, .val (.ref a226)]) (S' := [(.int c1), (.int (1 : Int32)), (.ref a226)]) rfl rfl rfl rfl rfl ?_
    refine castore (pc' := 193) d_method_4_192 V229 ⟨by decide, by decide⟩ (by simp) (Nat.le_of_ble_eq_true rfl) rfl fun h242 W243 V244 => ?_
    replace K := K.wr W243 (Or.inr sz_a226)
    replace V229 : Arv Z h242 a226 kc230 .char (5 : Int32) [(.int (nar .char c0)), (.int (nar .char c1)), (.int (0 : Int32)), (.int (0 : Int32)), (.int (0 : Int32))] (.int (0 : Int32)) := V244
    refine iloadN (pc' := 194) d_method_4_193 rfl rfl ?_
    refine iconst (pc' := 195) (v := (2 : Int32)) d_method_4_194 rfl rfl ?_
    refine icmpF (pc' := 198) d_method_4_195 (by decide : (2 : Int32) < (5 : Int32)) rfl ?_
    refine aload (pc' := 200) d_method_4_198 rfl rfl rfl ?_
    refine iconst (pc' := 201) (v := (2 : Int32)) d_method_4_200 rfl rfl ?_
    refine aloadN (pc' := 202) d_method_4_201 rfl rfl rfl ?_
    refine iconst (pc' := 203) (v := (2 : Int32)) d_method_4_202 rfl rfl ?_
    refine iloadN (pc' := 204) d_method_4_203 rfl rfl ?_
    refine lloadN (pc' := 205) d_method_4_204 rfl rfl ?_
    refine lload (pc' := 207) d_method_4_205 rfl rfl ?_
    refine call (i := 29) (i2 := 24) (Wd := 2) (pc' := 210) (kStatic (i := 27) (i2 := 28) (i3 := 24) (i4 := 29) (argsL := [(.ref x), (.int (2 : Int32)), (.int p), (.long ja), (.long jb)]) (S' := [(.int (2 : Int32)), (.ref a226)]) (Wd := 2) d_method_4_207 rfl rfl rfl rfl (by decide) rfl pd_10 rfl rfl (Nat.le_of_ble_eq_true rfl)) (rm_at l Z a0 hw hEL n0 x cb 2 p ja jb 2 _ (Sx.ext (keepExt K)) hB rfl (by decide) hcb) rfl rfl (by simp) (by decide) (by decide) (by decide) (by decide) rfl fun v_ h245 P246 sz247 => ?_
    obtain ⟨⟨c2, rfl, hc2⟩, e248⟩ := P246
    rw [e248]
    refine at' (ce' := 1) (sl' := 5) (pc' := 210) (L' := #[.val (.int (5 : Int32)), .val (.ref x), .val (.int p), .val (.long ja), .second, .val (.long jb), .second, .val (.ref a226)]) (S' := [(.int c2), (.int (2 : Int32)), (.ref a226)]) rfl rfl rfl rfl rfl ?_
    refine castore (pc' := 211) d_method_4_210 V229 ⟨by decide, by decide⟩ (by simp) (Nat.le_of_ble_eq_true rfl) rfl fun h249 W250 V251 => ?_
    replace K := K.wr W250 (Or.inr sz_a226)
    replace V229 : Arv Z h249 a226 kc230 .char (5 : Int32) [(.int (nar .char c0)), (.int (nar .char c1)), (.int (nar .char c2)), (.int (0 : Int32)), (.int (0 : Int32))] (.int (0 : Int32)) := V251
    refine iloadN (pc' := 212) d_method_4_211 rfl rfl ?_
    refine iconst (pc' := 213) (v := (3 : Int32)) d_method_4_212 rfl rfl ?_
    refine icmpF (pc' := 216) d_method_4_213 (by decide : (3 : Int32) < (5 : Int32)) rfl ?_
    refine aload (pc' := 218) d_method_4_216 rfl rfl rfl ?_
    refine iconst (pc' := 219) (v := (3 : Int32)) d_method_4_218 rfl rfl ?_
    refine aloadN (pc' := 220) d_method_4_219 rfl rfl rfl ?_
    refine iconst (pc' := 221) (v := (3 : Int32)) d_method_4_220 rfl rfl ?_
    refine iloadN (pc' := 222) d_method_4_221 rfl rfl ?_
    refine lloadN (pc' := 223) d_method_4_222 rfl rfl ?_
    refine lload (pc' := 225) d_method_4_223 rfl rfl ?_
    refine call (i := 29) (i2 := 24) (Wd := 2) (pc' := 228) (kStatic (i := 27) (i2 := 28) (i3 := 24) (i4 := 29) (argsL := [(.ref x), (.int (3 : Int32)), (.int p), (.long ja), (.long jb)]) (S' := [(.int (3 : Int32)), (.ref a226)]) (Wd := 2) d_method_4_225 rfl rfl rfl rfl (by decide) rfl pd_10 rfl rfl (Nat.le_of_ble_eq_true rfl)) (rm_at l Z a0 hw hEL n0 x cb 3 p ja jb 3 _ (Sx.ext (keepExt K)) hB rfl (by decide) hcb) rfl rfl (by simp) (by decide) (by decide) (by decide) (by decide) rfl fun v_ h252 P253 sz254 => ?_
    obtain ⟨⟨c3, rfl, hc3⟩, e255⟩ := P253
    rw [e255]
    refine at' (ce' := 1) (sl' := 5) (pc' := 228) (L' := #[.val (.int (5 : Int32)), .val (.ref x), .val (.int p), .val (.long ja), .second, .val (.long jb), .second, .val (.ref a226)]) (S' := [(.int c3), (.int (3 : Int32)), (.ref a226)]) rfl rfl rfl rfl rfl ?_
    refine castore (pc' := 229) d_method_4_228 V229 ⟨by decide, by decide⟩ (by simp) (Nat.le_of_ble_eq_true rfl) rfl fun h256 W257 V258 => ?_
    replace K := K.wr W257 (Or.inr sz_a226)
    replace V229 : Arv Z h256 a226 kc230 .char (5 : Int32) [(.int (nar .char c0)), (.int (nar .char c1)), (.int (nar .char c2)), (.int (nar .char c3)), (.int (0 : Int32))] (.int (0 : Int32)) := V258
    refine iloadN (pc' := 230) d_method_4_229 rfl rfl ?_
    refine iconst (pc' := 231) (v := (4 : Int32)) d_method_4_230 rfl rfl ?_
    refine icmpF (pc' := 234) d_method_4_231 (by decide : (4 : Int32) < (5 : Int32)) rfl ?_
    refine aload (pc' := 236) d_method_4_234 rfl rfl rfl ?_
    refine iconst (pc' := 237) (v := (4 : Int32)) d_method_4_236 rfl rfl ?_
    refine aloadN (pc' := 238) d_method_4_237 rfl rfl rfl ?_
    refine iconst (pc' := 239) (v := (4 : Int32)) d_method_4_238 rfl rfl ?_
    refine iloadN (pc' := 240) d_method_4_239 rfl rfl ?_
    refine lloadN (pc' := 241) d_method_4_240 rfl rfl ?_
    refine lload (pc' := 243) d_method_4_241 rfl rfl ?_
    refine call (i := 29) (i2 := 24) (Wd := 2) (pc' := 246) (kStatic (i := 27) (i2 := 28) (i3 := 24) (i4 := 29) (argsL := [(.ref x), (.int (4 : Int32)), (.int p), (.long ja), (.long jb)]) (S' := [(.int (4 : Int32)), (.ref a226)]) (Wd := 2) d_method_4_243 rfl rfl rfl rfl (by decide) rfl pd_10 rfl rfl (Nat.le_of_ble_eq_true rfl)) (rm_at l Z a0 hw hEL n0 x cb 4 p ja jb 4 _ (Sx.ext (keepExt K)) hB rfl (by decide) hcb) rfl rfl (by simp) (by decide) (by decide) (by decide) (by decide) rfl fun v_ h259 P260 sz261 => ?_
    obtain ⟨⟨c4, rfl, hc4⟩, e262⟩ := P260
    rw [e262]
    refine at' (ce' := 1) (sl' := 5) (pc' := 246) (L' := #[.val (.int (5 : Int32)), .val (.ref x), .val (.int p), .val (.long ja), .second, .val (.long jb), .second, .val (.ref a226)]) (S' := [(.int c4), (.int (4 : Int32)), (.ref a226)]) rfl rfl rfl rfl rfl ?_
    refine castore (pc' := 247) d_method_4_246 V229 ⟨by decide, by decide⟩ (by simp) (Nat.le_of_ble_eq_true rfl) rfl fun h263 W264 V265 => ?_
    replace K := K.wr W264 (Or.inr sz_a226)
    replace V229 : Arv Z h263 a226 kc230 .char (5 : Int32) [(.int (nar .char c0)), (.int (nar .char c1)), (.int (nar .char c2)), (.int (nar .char c3)), (.int (nar .char c4))] (.int (0 : Int32)) := V265
    refine iloadN (pc' := 248) d_method_4_247 rfl rfl ?_
    refine iconst (pc' := 249) (v := (5 : Int32)) d_method_4_248 rfl rfl ?_
    refine icmpT (pc' := 265) d_method_4_249 (by decide : ¬ ((5 : Int32) < (5 : Int32))) (by decide) rfl ?_
    refine iloadN (pc' := 266) d_method_4_265 rfl rfl ?_
    refine bipush (pc' := 268) (v := (6 : Int32)) d_method_4_266 rfl rfl ?_
    refine icmpT (pc' := 286) d_method_4_268 (by decide : ¬ ((6 : Int32) < (5 : Int32))) (by decide) rfl ?_
    refine iloadN (pc' := 287) d_method_4_286 rfl rfl ?_
    refine bipush (pc' := 289) (v := (7 : Int32)) d_method_4_287 rfl rfl ?_
    refine icmpT (pc' := 307) d_method_4_289 (by decide : ¬ ((7 : Int32) < (5 : Int32))) (by decide) rfl ?_
    refine iloadN (pc' := 308) d_method_4_307 rfl rfl ?_
    refine bipush (pc' := 310) (v := (8 : Int32)) d_method_4_308 rfl rfl ?_
    refine icmpT (pc' := 328) d_method_4_310 (by decide : ¬ ((8 : Int32) < (5 : Int32))) (by decide) rfl ?_
    refine iloadN (pc' := 329) d_method_4_328 rfl rfl ?_
    refine bipush (pc' := 331) (v := (9 : Int32)) d_method_4_329 rfl rfl ?_
    refine icmpT (pc' := 349) d_method_4_331 (by decide : ¬ ((9 : Int32) < (5 : Int32))) (by decide) rfl ?_
    refine iloadN (pc' := 350) d_method_4_349 rfl rfl ?_
    refine bipush (pc' := 352) (v := (10 : Int32)) d_method_4_350 rfl rfl ?_
    refine icmpT (pc' := 370) d_method_4_352 (by decide : ¬ ((10 : Int32) < (5 : Int32))) (by decide) rfl ?_
    refine new (i := 52) (i2 := 2) (i3 := 1) (pc' := 373) d_method_4_370 rfl rfl rfl (by decide) (by decide) rfl fun h266 a267 g268 E269 A270 D271 => ?_
    have sz_a267 : h.size ≤ a267 := by rw [g268]; exact K.1
    have ne_a226_a267 : a226 ≠ a267 := Nat.ne_of_lt (by rw [g268]; exact V229.lt)
    replace K := K.ext E269
    replace V229 := V229.ext E269
    have F_value_a267 : Fld Z h266 a267 "java/lang/String" "value" "[B" .null := D271 (Or.inr (hw _ (List.mem_of_getElem? (i := 4) rfl))) (ty := (.array .byte)) (by decide)
    have F_coder_a267 : Fld Z h266 a267 "java/lang/String" "coder" "B" (.int (0 : Int32)) := D271 (Or.inr (hw _ (List.mem_of_getElem? (i := 5) rfl))) (ty := .byte) (by decide)
    refine dup (pc' := 374) d_method_4_373 rfl rfl ?_
    refine aload (pc' := 376) d_method_4_374 rfl rfl rfl ?_
    have Vb : Arv Z h266 a226 kc230 .char (5 : Int32) (List.map Value.int ([c0, c1, c2, c3, c4] : List Int32)) (.int (0 : Int32)) := by
      have q := V229
      rw [own_nar hc0, own_nar hc1, own_nar hc2, own_nar hc3, own_nar hc4] at q; exact q
    refine strNewW (i := 2) (Wd := 1) (n := 5) (cs := ([c0, c1, c2, c3, c4] : List Int32)) (pc' := 379) hB (by decide +kernel) rfl (kInit (i := 53) (i2 := 54) (i4 := 55) (a := a267) (argsL := [(.ref a226)]) (S' := [(.ref a267)]) (Wd := 1) d_method_4_376 rfl rfl rfl rfl (by decide) rfl pd_9 rfl rfl (Nat.le_of_ble_eq_true rfl)) A270 F_value_a267 F_coder_a267 Vb rfl rfl (by decide) (by intro c hc; simp only [List.mem_cons, List.not_mem_nil, or_false] at hc; rcases hc with rfl | rfl | rfl | rfl | rfl <;> assumption) (by simp) (by decide) (by decide) (by decide) (by decide) rfl fun hs Ks Ss => ?_
    replace K := K.trans Ks (allS (Or.inr sz_a267) all0)
    replace A270 := A270.keep Ks
    refine at' (ce' := 6) (sl' := 22) (pc' := 379) (L' := #[.val (.int (5 : Int32)), .val (.ref x), .val (.int p), .val (.long ja), .second, .val (.long jb), .second, .val (.ref a226)]) (S' := [(.ref a267)]) rfl rfl rfl rfl rfl ?_
    exact retA d_method_4_379 rfl rfl rfl (by decide) (by decide) ⟨a267, ([c0, c1, c2, c3, c4] : List Int32), rfl, keepExt K, Ss⟩
  · skip
    refine at' (ce' := 0) (sl' := 0) (pc' := 0) (L' := #[.val (.int (6 : Int32)), .val (.ref x), .val (.int p), .val (.long ja), .second, .val (.long jb), .second, .unset]) (S' := []) rfl rfl rfl rfl rfl ?_
    refine iloadN (pc' := 1) d_method_4_0 rfl rfl ?_
    refine ifT (pc' := 12) d_method_4_1 (by decide : ¬ ((6 : Int32) = (0 : Int32))) (by decide) rfl ?_
    refine iloadN (pc' := 13) d_method_4_12 rfl rfl ?_
    refine iconst (pc' := 14) (v := (1 : Int32)) d_method_4_13 rfl rfl ?_
    refine icmpT (pc' := 25) d_method_4_14 (by decide : ¬ ((6 : Int32) = (1 : Int32))) (by decide) rfl ?_
    refine iloadN (pc' := 26) d_method_4_25 rfl rfl ?_
    refine iconst (pc' := 27) (v := (2 : Int32)) d_method_4_26 rfl rfl ?_
    refine icmpT (pc' := 38) d_method_4_27 (by decide : ¬ ((6 : Int32) = (2 : Int32))) (by decide) rfl ?_
    refine iloadN (pc' := 39) d_method_4_38 rfl rfl ?_
    refine iconst (pc' := 40) (v := (3 : Int32)) d_method_4_39 rfl rfl ?_
    refine icmpT (pc' := 51) d_method_4_40 (by decide : ¬ ((6 : Int32) = (3 : Int32))) (by decide) rfl ?_
    refine iloadN (pc' := 52) d_method_4_51 rfl rfl ?_
    refine iconst (pc' := 53) (v := (4 : Int32)) d_method_4_52 rfl rfl ?_
    refine icmpT (pc' := 64) d_method_4_53 (by decide : ¬ ((6 : Int32) = (4 : Int32))) (by decide) rfl ?_
    refine iloadN (pc' := 65) d_method_4_64 rfl rfl ?_
    refine iconst (pc' := 66) (v := (5 : Int32)) d_method_4_65 rfl rfl ?_
    refine icmpT (pc' := 77) d_method_4_66 (by decide : ¬ ((6 : Int32) = (5 : Int32))) (by decide) rfl ?_
    refine iloadN (pc' := 78) d_method_4_77 rfl rfl ?_
    refine bipush (pc' := 80) (v := (6 : Int32)) d_method_4_78 rfl rfl ?_
    refine icmpF (pc' := 83) d_method_4_80 (by decide : (6 : Int32) = (6 : Int32)) rfl ?_
    refine bipush (pc' := 85) (v := (6 : Int32)) d_method_4_83 rfl rfl ?_
    refine newarray (i := 26) (cap := 6) (ty := .char) (pc' := 87) d_method_4_85 rfl rfl (by decide) (by decide) (by decide) (by decide) (by decide) rfl fun h272 a273 kc277 g274 E275 V276 => ?_
    have sz_a273 : h.size ≤ a273 := by rw [g274]; exact K.1
    replace K := K.ext E275
    replace V276 : Arv Z h272 a273 kc277 .char (6 : Int32) [(.int (0 : Int32)), (.int (0 : Int32)), (.int (0 : Int32)), (.int (0 : Int32)), (.int (0 : Int32)), (.int (0 : Int32))] (.int (0 : Int32)) := V276.pad (pad_rep [] (.int (0 : Int32)) 6)
    refine astore (pc' := 89) (L' := #[.val (.int (6 : Int32)), .val (.ref x), .val (.int p), .val (.long ja), .second, .val (.long jb), .second, .val (.ref a273)]) d_method_4_87 rfl rfl rfl ?_
    refine goto (pc' := 158) d_method_4_89 (by decide) rfl ?_
    refine iloadN (pc' := 159) d_method_4_158 rfl rfl ?_
    refine ifF (pc' := 162) d_method_4_159 (by decide : (0 : Int32) < (6 : Int32)) rfl ?_
    refine aload (pc' := 164) d_method_4_162 rfl rfl rfl ?_
    refine iconst (pc' := 165) (v := (0 : Int32)) d_method_4_164 rfl rfl ?_
    refine aloadN (pc' := 166) d_method_4_165 rfl rfl rfl ?_
    refine iconst (pc' := 167) (v := (0 : Int32)) d_method_4_166 rfl rfl ?_
    refine iloadN (pc' := 168) d_method_4_167 rfl rfl ?_
    refine lloadN (pc' := 169) d_method_4_168 rfl rfl ?_
    refine lload (pc' := 171) d_method_4_169 rfl rfl ?_
    refine call (i := 29) (i2 := 24) (Wd := 2) (pc' := 174) (kStatic (i := 27) (i2 := 28) (i3 := 24) (i4 := 29) (argsL := [(.ref x), (.int (0 : Int32)), (.int p), (.long ja), (.long jb)]) (S' := [(.int (0 : Int32)), (.ref a273)]) (Wd := 2) d_method_4_171 rfl rfl rfl rfl (by decide) rfl pd_10 rfl rfl (Nat.le_of_ble_eq_true rfl)) (rm_at l Z a0 hw hEL n0 x cb 0 p ja jb 0 _ (Sx.ext (keepExt K)) hB rfl (by decide) hcb) rfl rfl (by simp) (by decide) (by decide) (by decide) (by decide) rfl fun v_ h278 P279 sz280 => ?_
    obtain ⟨⟨c0, rfl, hc0⟩, e281⟩ := P279
    rw [e281]
    refine at' (ce' := 1) (sl' := 6) (pc' := 174) (L' := #[.val (.int (6 : Int32)), .val (.ref x), .val (.int p), .val (.long ja), .second, .val (.long jb), .second, .val (.ref a273)]) (S' := [(.int c0), (.int (0 : Int32)), (.ref a273)]) rfl rfl rfl rfl rfl ?_
    refine castore (pc' := 175) d_method_4_174 V276 ⟨by decide, by decide⟩ (by simp) (Nat.le_of_ble_eq_true rfl) rfl fun h282 W283 V284 => ?_
    replace K := K.wr W283 (Or.inr sz_a273)
    replace V276 : Arv Z h282 a273 kc277 .char (6 : Int32) [(.int (nar .char c0)), (.int (0 : Int32)), (.int (0 : Int32)), (.int (0 : Int32)), (.int (0 : Int32)), (.int (0 : Int32))] (.int (0 : Int32)) := V284
    refine iloadN (pc' := 176) d_method_4_175 rfl rfl ?_
    refine iconst (pc' := 177) (v := (1 : Int32)) d_method_4_176 rfl rfl ?_
    refine icmpF (pc' := 180) d_method_4_177 (by decide : (1 : Int32) < (6 : Int32)) rfl ?_
    refine aload (pc' := 182) d_method_4_180 rfl rfl rfl ?_
    refine iconst (pc' := 183) (v := (1 : Int32)) d_method_4_182 rfl rfl ?_
    refine aloadN (pc' := 184) d_method_4_183 rfl rfl rfl ?_
    refine iconst (pc' := 185) (v := (1 : Int32)) d_method_4_184 rfl rfl ?_
    refine iloadN (pc' := 186) d_method_4_185 rfl rfl ?_
    refine lloadN (pc' := 187) d_method_4_186 rfl rfl ?_
    refine lload (pc' := 189) d_method_4_187 rfl rfl ?_
    refine call (i := 29) (i2 := 24) (Wd := 2) (pc' := 192) (kStatic (i := 27) (i2 := 28) (i3 := 24) (i4 := 29) (argsL := [(.ref x), (.int (1 : Int32)), (.int p), (.long ja), (.long jb)]) (S' := [(.int (1 : Int32)), (.ref a273)]) (Wd := 2) d_method_4_189 rfl rfl rfl rfl (by decide) rfl pd_10 rfl rfl (Nat.le_of_ble_eq_true rfl)) (rm_at l Z a0 hw hEL n0 x cb 1 p ja jb 1 _ (Sx.ext (keepExt K)) hB rfl (by decide) hcb) rfl rfl (by simp) (by decide) (by decide) (by decide) (by decide) rfl fun v_ h285 P286 sz287 => ?_
    obtain ⟨⟨c1, rfl, hc1⟩, e288⟩ := P286
    rw [e288]
    refine at' (ce' := 1) (sl' := 6) (pc' := 192) (L' := #[.val (.int (6 : Int32)), .val (.ref x), .val (.int p), .val (.long ja), .second, .val (.long jb), .second, .val (.ref a273)]) (S' := [(.int c1), (.int (1 : Int32)), (.ref a273)]) rfl rfl rfl rfl rfl ?_
    refine castore (pc' := 193) d_method_4_192 V276 ⟨by decide, by decide⟩ (by simp) (Nat.le_of_ble_eq_true rfl) rfl fun h289 W290 V291 => ?_
    replace K := K.wr W290 (Or.inr sz_a273)
    replace V276 : Arv Z h289 a273 kc277 .char (6 : Int32) [(.int (nar .char c0)), (.int (nar .char c1)), (.int (0 : Int32)), (.int (0 : Int32)), (.int (0 : Int32)), (.int (0 : Int32))] (.int (0 : Int32)) := V291
    refine iloadN (pc' := 194) d_method_4_193 rfl rfl ?_
    refine iconst (pc' := 195) (v := (2 : Int32)) d_method_4_194 rfl rfl ?_
    refine icmpF (pc' := 198) d_method_4_195 (by decide : (2 : Int32) < (6 : Int32)) rfl ?_
    refine aload (pc' := 200) d_method_4_198 rfl rfl rfl ?_
    refine iconst (pc' := 201) (v := (2 : Int32)) d_method_4_200 rfl rfl ?_
    refine aloadN (pc' := 202) d_method_4_201 rfl rfl rfl ?_
    refine iconst (pc' := 203) (v := (2 : Int32)) d_method_4_202 rfl rfl ?_
    refine iloadN (pc' := 204) d_method_4_203 rfl rfl ?_
    refine lloadN (pc' := 205) d_method_4_204 rfl rfl ?_
    refine lload (pc' := 207) d_method_4_205 rfl rfl ?_
    refine call (i := 29) (i2 := 24) (Wd := 2) (pc' := 210) (kStatic (i := 27) (i2 := 28) (i3 := 24) (i4 := 29) (argsL := [(.ref x), (.int (2 : Int32)), (.int p), (.long ja), (.long jb)]) (S' := [(.int (2 : Int32)), (.ref a273)]) (Wd := 2) d_method_4_207 rfl rfl rfl rfl (by decide) rfl pd_10 rfl rfl (Nat.le_of_ble_eq_true rfl)) (rm_at l Z a0 hw hEL n0 x cb 2 p ja jb 2 _ (Sx.ext (keepExt K)) hB rfl (by decide) hcb) rfl rfl (by simp) (by decide) (by decide) (by decide) (by decide) rfl fun v_ h292 P293 sz294 => ?_
    obtain ⟨⟨c2, rfl, hc2⟩, e295⟩ := P293
    rw [e295]
    refine at' (ce' := 1) (sl' := 6) (pc' := 210) (L' := #[.val (.int (6 : Int32)), .val (.ref x), .val (.int p), .val (.long ja), .second, .val (.long jb), .second, .val (.ref a273)]) (S' := [(.int c2), (.int (2 : Int32)), (.ref a273)]) rfl rfl rfl rfl rfl ?_
    refine castore (pc' := 211) d_method_4_210 V276 ⟨by decide, by decide⟩ (by simp) (Nat.le_of_ble_eq_true rfl) rfl fun h296 W297 V298 => ?_
    replace K := K.wr W297 (Or.inr sz_a273)
    replace V276 : Arv Z h296 a273 kc277 .char (6 : Int32) [(.int (nar .char c0)), (.int (nar .char c1)), (.int (nar .char c2)), (.int (0 : Int32)), (.int (0 : Int32)), (.int (0 : Int32))] (.int (0 : Int32)) := V298
    refine iloadN (pc' := 212) d_method_4_211 rfl rfl ?_
    refine iconst (pc' := 213) (v := (3 : Int32)) d_method_4_212 rfl rfl ?_
    refine icmpF (pc' := 216) d_method_4_213 (by decide : (3 : Int32) < (6 : Int32)) rfl ?_
    refine aload (pc' := 218) d_method_4_216 rfl rfl rfl ?_
    refine iconst (pc' := 219) (v := (3 : Int32)) d_method_4_218 rfl rfl ?_
    refine aloadN (pc' := 220) d_method_4_219 rfl rfl rfl ?_
    refine iconst (pc' := 221) (v := (3 : Int32)) d_method_4_220 rfl rfl ?_
    refine iloadN (pc' := 222) d_method_4_221 rfl rfl ?_
    refine lloadN (pc' := 223) d_method_4_222 rfl rfl ?_
    refine lload (pc' := 225) d_method_4_223 rfl rfl ?_
    refine call (i := 29) (i2 := 24) (Wd := 2) (pc' := 228) (kStatic (i := 27) (i2 := 28) (i3 := 24) (i4 := 29) (argsL := [(.ref x), (.int (3 : Int32)), (.int p), (.long ja), (.long jb)]) (S' := [(.int (3 : Int32)), (.ref a273)]) (Wd := 2) d_method_4_225 rfl rfl rfl rfl (by decide) rfl pd_10 rfl rfl (Nat.le_of_ble_eq_true rfl)) (rm_at l Z a0 hw hEL n0 x cb 3 p ja jb 3 _ (Sx.ext (keepExt K)) hB rfl (by decide) hcb) rfl rfl (by simp) (by decide) (by decide) (by decide) (by decide) rfl fun v_ h299 P300 sz301 => ?_
    obtain ⟨⟨c3, rfl, hc3⟩, e302⟩ := P300
    rw [e302]
    refine at' (ce' := 1) (sl' := 6) (pc' := 228) (L' := #[.val (.int (6 : Int32)), .val (.ref x), .val (.int p), .val (.long ja), .second, .val (.long jb), .second, .val (.ref a273)]) (S' := [(.int c3), (.int (3 : Int32)), (.ref a273)]) rfl rfl rfl rfl rfl ?_
    refine castore (pc' := 229) d_method_4_228 V276 ⟨by decide, by decide⟩ (by simp) (Nat.le_of_ble_eq_true rfl) rfl fun h303 W304 V305 => ?_
    replace K := K.wr W304 (Or.inr sz_a273)
    replace V276 : Arv Z h303 a273 kc277 .char (6 : Int32) [(.int (nar .char c0)), (.int (nar .char c1)), (.int (nar .char c2)), (.int (nar .char c3)), (.int (0 : Int32)), (.int (0 : Int32))] (.int (0 : Int32)) := V305
    refine iloadN (pc' := 230) d_method_4_229 rfl rfl ?_
    refine iconst (pc' := 231) (v := (4 : Int32)) d_method_4_230 rfl rfl ?_
    refine icmpF (pc' := 234) d_method_4_231 (by decide : (4 : Int32) < (6 : Int32)) rfl ?_
    refine aload (pc' := 236) d_method_4_234 rfl rfl rfl ?_
    refine iconst (pc' := 237) (v := (4 : Int32)) d_method_4_236 rfl rfl ?_
    refine aloadN (pc' := 238) d_method_4_237 rfl rfl rfl ?_
    refine iconst (pc' := 239) (v := (4 : Int32)) d_method_4_238 rfl rfl ?_
    refine iloadN (pc' := 240) d_method_4_239 rfl rfl ?_
    refine lloadN (pc' := 241) d_method_4_240 rfl rfl ?_
    refine lload (pc' := 243) d_method_4_241 rfl rfl ?_
    refine call (i := 29) (i2 := 24) (Wd := 2) (pc' := 246) (kStatic (i := 27) (i2 := 28) (i3 := 24) (i4 := 29) (argsL := [(.ref x), (.int (4 : Int32)), (.int p), (.long ja), (.long jb)]) (S' := [(.int (4 : Int32)), (.ref a273)]) (Wd := 2) d_method_4_243 rfl rfl rfl rfl (by decide) rfl pd_10 rfl rfl (Nat.le_of_ble_eq_true rfl)) (rm_at l Z a0 hw hEL n0 x cb 4 p ja jb 4 _ (Sx.ext (keepExt K)) hB rfl (by decide) hcb) rfl rfl (by simp) (by decide) (by decide) (by decide) (by decide) rfl fun v_ h306 P307 sz308 => ?_
    obtain ⟨⟨c4, rfl, hc4⟩, e309⟩ := P307
    rw [e309]
    refine at' (ce' := 1) (sl' := 6) (pc' := 246) (L' := #[.val (.int (6 : Int32)), .val (.ref x), .val (.int p), .val (.long ja), .second, .val (.long jb), .second, .val (.ref a273)]) (S' := [(.int c4), (.int (4 : Int32)), (.ref a273)]) rfl rfl rfl rfl rfl ?_
    refine castore (pc' := 247) d_method_4_246 V276 ⟨by decide, by decide⟩ (by simp) (Nat.le_of_ble_eq_true rfl) rfl fun h310 W311 V312 => ?_
    replace K := K.wr W311 (Or.inr sz_a273)
    replace V276 : Arv Z h310 a273 kc277 .char (6 : Int32) [(.int (nar .char c0)), (.int (nar .char c1)), (.int (nar .char c2)), (.int (nar .char c3)), (.int (nar .char c4)), (.int (0 : Int32))] (.int (0 : Int32)) := V312
    refine iloadN (pc' := 248) d_method_4_247 rfl rfl ?_
    refine iconst (pc' := 249) (v := (5 : Int32)) d_method_4_248 rfl rfl ?_
    refine icmpF (pc' := 252) d_method_4_249 (by decide : (5 : Int32) < (6 : Int32)) rfl ?_
    refine aload (pc' := 254) d_method_4_252 rfl rfl rfl ?_
    refine iconst (pc' := 255) (v := (5 : Int32)) d_method_4_254 rfl rfl ?_
    refine aloadN (pc' := 256) d_method_4_255 rfl rfl rfl ?_
    refine iconst (pc' := 257) (v := (5 : Int32)) d_method_4_256 rfl rfl ?_
    refine iloadN (pc' := 258) d_method_4_257 rfl rfl ?_
    refine lloadN (pc' := 259) d_method_4_258 rfl rfl ?_
    refine lload (pc' := 261) d_method_4_259 rfl rfl ?_
    refine call (i := 29) (i2 := 24) (Wd := 2) (pc' := 264) (kStatic (i := 27) (i2 := 28) (i3 := 24) (i4 := 29) (argsL := [(.ref x), (.int (5 : Int32)), (.int p), (.long ja), (.long jb)]) (S' := [(.int (5 : Int32)), (.ref a273)]) (Wd := 2) d_method_4_261 rfl rfl rfl rfl (by decide) rfl pd_10 rfl rfl (Nat.le_of_ble_eq_true rfl)) (rm_at l Z a0 hw hEL n0 x cb 5 p ja jb 5 _ (Sx.ext (keepExt K)) hB rfl (by decide) hcb) rfl rfl (by simp) (by decide) (by decide) (by decide) (by decide) rfl fun v_ h313 P314 sz315 => ?_
    obtain ⟨⟨c5, rfl, hc5⟩, e316⟩ := P314
    rw [e316]
    refine at' (ce' := 1) (sl' := 6) (pc' := 264) (L' := #[.val (.int (6 : Int32)), .val (.ref x), .val (.int p), .val (.long ja), .second, .val (.long jb), .second, .val (.ref a273)]) (S' := [(.int c5), (.int (5 : Int32)), (.ref a273)]) rfl rfl rfl rfl rfl ?_
    refine castore (pc' := 265) d_method_4_264 V276 ⟨by decide, by decide⟩ (by simp) (Nat.le_of_ble_eq_true rfl) rfl fun h317 W318 V319 => ?_
    replace K := K.wr W318 (Or.inr sz_a273)
    replace V276 : Arv Z h317 a273 kc277 .char (6 : Int32) [(.int (nar .char c0)), (.int (nar .char c1)), (.int (nar .char c2)), (.int (nar .char c3)), (.int (nar .char c4)), (.int (nar .char c5))] (.int (0 : Int32)) := V319
    refine iloadN (pc' := 266) d_method_4_265 rfl rfl ?_
    refine bipush (pc' := 268) (v := (6 : Int32)) d_method_4_266 rfl rfl ?_
    refine icmpT (pc' := 286) d_method_4_268 (by decide : ¬ ((6 : Int32) < (6 : Int32))) (by decide) rfl ?_
    refine iloadN (pc' := 287) d_method_4_286 rfl rfl ?_
    refine bipush (pc' := 289) (v := (7 : Int32)) d_method_4_287 rfl rfl ?_
    refine icmpT (pc' := 307) d_method_4_289 (by decide : ¬ ((7 : Int32) < (6 : Int32))) (by decide) rfl ?_
    refine iloadN (pc' := 308) d_method_4_307 rfl rfl ?_
    refine bipush (pc' := 310) (v := (8 : Int32)) d_method_4_308 rfl rfl ?_
    refine icmpT (pc' := 328) d_method_4_310 (by decide : ¬ ((8 : Int32) < (6 : Int32))) (by decide) rfl ?_
    refine iloadN (pc' := 329) d_method_4_328 rfl rfl ?_
    refine bipush (pc' := 331) (v := (9 : Int32)) d_method_4_329 rfl rfl ?_
    refine icmpT (pc' := 349) d_method_4_331 (by decide : ¬ ((9 : Int32) < (6 : Int32))) (by decide) rfl ?_
    refine iloadN (pc' := 350) d_method_4_349 rfl rfl ?_
    refine bipush (pc' := 352) (v := (10 : Int32)) d_method_4_350 rfl rfl ?_
    refine icmpT (pc' := 370) d_method_4_352 (by decide : ¬ ((10 : Int32) < (6 : Int32))) (by decide) rfl ?_
    refine new (i := 52) (i2 := 2) (i3 := 1) (pc' := 373) d_method_4_370 rfl rfl rfl (by decide) (by decide) rfl fun h320 a321 g322 E323 A324 D325 => ?_
    have sz_a321 : h.size ≤ a321 := by rw [g322]; exact K.1
    have ne_a273_a321 : a273 ≠ a321 := Nat.ne_of_lt (by rw [g322]; exact V276.lt)
    replace K := K.ext E323
    replace V276 := V276.ext E323
    have F_value_a321 : Fld Z h320 a321 "java/lang/String" "value" "[B" .null := D325 (Or.inr (hw _ (List.mem_of_getElem? (i := 4) rfl))) (ty := (.array .byte)) (by decide)
    have F_coder_a321 : Fld Z h320 a321 "java/lang/String" "coder" "B" (.int (0 : Int32)) := D325 (Or.inr (hw _ (List.mem_of_getElem? (i := 5) rfl))) (ty := .byte) (by decide)
    refine dup (pc' := 374) d_method_4_373 rfl rfl ?_
    refine aload (pc' := 376) d_method_4_374 rfl rfl rfl ?_
    have Vb : Arv Z h320 a273 kc277 .char (6 : Int32) (List.map Value.int ([c0, c1, c2, c3, c4, c5] : List Int32)) (.int (0 : Int32)) := by
      have q := V276
      rw [own_nar hc0, own_nar hc1, own_nar hc2, own_nar hc3, own_nar hc4, own_nar hc5] at q; exact q
    refine strNewW (i := 2) (Wd := 1) (n := 6) (cs := ([c0, c1, c2, c3, c4, c5] : List Int32)) (pc' := 379) hB (by decide +kernel) rfl (kInit (i := 53) (i2 := 54) (i4 := 55) (a := a321) (argsL := [(.ref a273)]) (S' := [(.ref a321)]) (Wd := 1) d_method_4_376 rfl rfl rfl rfl (by decide) rfl pd_9 rfl rfl (Nat.le_of_ble_eq_true rfl)) A324 F_value_a321 F_coder_a321 Vb rfl rfl (by decide) (by intro c hc; simp only [List.mem_cons, List.not_mem_nil, or_false] at hc; rcases hc with rfl | rfl | rfl | rfl | rfl | rfl <;> assumption) (by simp) (by decide) (by decide) (by decide) (by decide) rfl fun hs Ks Ss => ?_
    replace K := K.trans Ks (allS (Or.inr sz_a321) all0)
    replace A324 := A324.keep Ks
    refine at' (ce' := 6) (sl' := 24) (pc' := 379) (L' := #[.val (.int (6 : Int32)), .val (.ref x), .val (.int p), .val (.long ja), .second, .val (.long jb), .second, .val (.ref a273)]) (S' := [(.ref a321)]) rfl rfl rfl rfl rfl ?_
    exact retA d_method_4_379 rfl rfl rfl (by decide) (by decide) ⟨a321, ([c0, c1, c2, c3, c4, c5] : List Int32), rfl, keepExt K, Ss⟩
  · skip
    refine at' (ce' := 0) (sl' := 0) (pc' := 0) (L' := #[.val (.int (7 : Int32)), .val (.ref x), .val (.int p), .val (.long ja), .second, .val (.long jb), .second, .unset]) (S' := []) rfl rfl rfl rfl rfl ?_
    refine iloadN (pc' := 1) d_method_4_0 rfl rfl ?_
    refine ifT (pc' := 12) d_method_4_1 (by decide : ¬ ((7 : Int32) = (0 : Int32))) (by decide) rfl ?_
    refine iloadN (pc' := 13) d_method_4_12 rfl rfl ?_
    refine iconst (pc' := 14) (v := (1 : Int32)) d_method_4_13 rfl rfl ?_
    refine icmpT (pc' := 25) d_method_4_14 (by decide : ¬ ((7 : Int32) = (1 : Int32))) (by decide) rfl ?_
    refine iloadN (pc' := 26) d_method_4_25 rfl rfl ?_
    refine iconst (pc' := 27) (v := (2 : Int32)) d_method_4_26 rfl rfl ?_
    refine icmpT (pc' := 38) d_method_4_27 (by decide : ¬ ((7 : Int32) = (2 : Int32))) (by decide) rfl ?_
    refine iloadN (pc' := 39) d_method_4_38 rfl rfl ?_
    refine iconst (pc' := 40) (v := (3 : Int32)) d_method_4_39 rfl rfl ?_
    refine icmpT (pc' := 51) d_method_4_40 (by decide : ¬ ((7 : Int32) = (3 : Int32))) (by decide) rfl ?_
    refine iloadN (pc' := 52) d_method_4_51 rfl rfl ?_
    refine iconst (pc' := 53) (v := (4 : Int32)) d_method_4_52 rfl rfl ?_
    refine icmpT (pc' := 64) d_method_4_53 (by decide : ¬ ((7 : Int32) = (4 : Int32))) (by decide) rfl ?_
    refine iloadN (pc' := 65) d_method_4_64 rfl rfl ?_
    refine iconst (pc' := 66) (v := (5 : Int32)) d_method_4_65 rfl rfl ?_
    refine icmpT (pc' := 77) d_method_4_66 (by decide : ¬ ((7 : Int32) = (5 : Int32))) (by decide) rfl ?_
    refine iloadN (pc' := 78) d_method_4_77 rfl rfl ?_
    refine bipush (pc' := 80) (v := (6 : Int32)) d_method_4_78 rfl rfl ?_
    refine icmpT (pc' := 92) d_method_4_80 (by decide : ¬ ((7 : Int32) = (6 : Int32))) (by decide) rfl ?_
    refine iloadN (pc' := 93) d_method_4_92 rfl rfl ?_
    refine bipush (pc' := 95) (v := (7 : Int32)) d_method_4_93 rfl rfl ?_
    refine icmpF (pc' := 98) d_method_4_95 (by decide : (7 : Int32) = (7 : Int32)) rfl ?_
    refine bipush (pc' := 100) (v := (7 : Int32)) d_method_4_98 rfl rfl ?_
    refine newarray (i := 26) (cap := 7) (ty := .char) (pc' := 102) d_method_4_100 rfl rfl (by decide) (by decide) (by decide) (by decide) (by decide) rfl fun h326 a327 kc331 g328 E329 V330 => ?_
    have sz_a327 : h.size ≤ a327 := by rw [g328]; exact K.1
    replace K := K.ext E329
    replace V330 : Arv Z h326 a327 kc331 .char (7 : Int32) [(.int (0 : Int32)), (.int (0 : Int32)), (.int (0 : Int32)), (.int (0 : Int32)), (.int (0 : Int32)), (.int (0 : Int32)), (.int (0 : Int32))] (.int (0 : Int32)) := V330.pad (pad_rep [] (.int (0 : Int32)) 7)
    refine astore (pc' := 104) (L' := #[.val (.int (7 : Int32)), .val (.ref x), .val (.int p), .val (.long ja), .second, .val (.long jb), .second, .val (.ref a327)]) d_method_4_102 rfl rfl rfl ?_
    refine goto (pc' := 158) d_method_4_104 (by decide) rfl ?_
    refine iloadN (pc' := 159) d_method_4_158 rfl rfl ?_
    refine ifF (pc' := 162) d_method_4_159 (by decide : (0 : Int32) < (7 : Int32)) rfl ?_
    refine aload (pc' := 164) d_method_4_162 rfl rfl rfl ?_
    refine iconst (pc' := 165) (v := (0 : Int32)) d_method_4_164 rfl rfl ?_
    refine aloadN (pc' := 166) d_method_4_165 rfl rfl rfl ?_
    refine iconst (pc' := 167) (v := (0 : Int32)) d_method_4_166 rfl rfl ?_
    refine iloadN (pc' := 168) d_method_4_167 rfl rfl ?_
    refine lloadN (pc' := 169) d_method_4_168 rfl rfl ?_
    refine lload (pc' := 171) d_method_4_169 rfl rfl ?_
    refine call (i := 29) (i2 := 24) (Wd := 2) (pc' := 174) (kStatic (i := 27) (i2 := 28) (i3 := 24) (i4 := 29) (argsL := [(.ref x), (.int (0 : Int32)), (.int p), (.long ja), (.long jb)]) (S' := [(.int (0 : Int32)), (.ref a327)]) (Wd := 2) d_method_4_171 rfl rfl rfl rfl (by decide) rfl pd_10 rfl rfl (Nat.le_of_ble_eq_true rfl)) (rm_at l Z a0 hw hEL n0 x cb 0 p ja jb 0 _ (Sx.ext (keepExt K)) hB rfl (by decide) hcb) rfl rfl (by simp) (by decide) (by decide) (by decide) (by decide) rfl fun v_ h332 P333 sz334 => ?_
    obtain ⟨⟨c0, rfl, hc0⟩, e335⟩ := P333
    rw [e335]
    refine at' (ce' := 1) (sl' := 7) (pc' := 174) (L' := #[.val (.int (7 : Int32)), .val (.ref x), .val (.int p), .val (.long ja), .second, .val (.long jb), .second, .val (.ref a327)]) (S' := [(.int c0), (.int (0 : Int32)), (.ref a327)]) rfl rfl rfl rfl rfl ?_
    refine castore (pc' := 175) d_method_4_174 V330 ⟨by decide, by decide⟩ (by simp) (Nat.le_of_ble_eq_true rfl) rfl fun h336 W337 V338 => ?_
    replace K := K.wr W337 (Or.inr sz_a327)
    replace V330 : Arv Z h336 a327 kc331 .char (7 : Int32) [(.int (nar .char c0)), (.int (0 : Int32)), (.int (0 : Int32)), (.int (0 : Int32)), (.int (0 : Int32)), (.int (0 : Int32)), (.int (0 : Int32))] (.int (0 : Int32)) := V338
    refine iloadN (pc' := 176) d_method_4_175 rfl rfl ?_
    refine iconst (pc' := 177) (v := (1 : Int32)) d_method_4_176 rfl rfl ?_
    refine icmpF (pc' := 180) d_method_4_177 (by decide : (1 : Int32) < (7 : Int32)) rfl ?_
    refine aload (pc' := 182) d_method_4_180 rfl rfl rfl ?_
    refine iconst (pc' := 183) (v := (1 : Int32)) d_method_4_182 rfl rfl ?_
    refine aloadN (pc' := 184) d_method_4_183 rfl rfl rfl ?_
    refine iconst (pc' := 185) (v := (1 : Int32)) d_method_4_184 rfl rfl ?_
    refine iloadN (pc' := 186) d_method_4_185 rfl rfl ?_
    refine lloadN (pc' := 187) d_method_4_186 rfl rfl ?_
    refine lload (pc' := 189) d_method_4_187 rfl rfl ?_
    refine call (i := 29) (i2 := 24) (Wd := 2) (pc' := 192) (kStatic (i := 27) (i2 := 28) (i3 := 24) (i4 := 29) (argsL := [(.ref x), (.int (1 : Int32)), (.int p), (.long ja), (.long jb)]) (S' := [(.int (1 : Int32)), (.ref a327)]) (Wd := 2) d_method_4_189 rfl rfl rfl rfl (by decide) rfl pd_10 rfl rfl (Nat.le_of_ble_eq_true rfl)) (rm_at l Z a0 hw hEL n0 x cb 1 p ja jb 1 _ (Sx.ext (keepExt K)) hB rfl (by decide) hcb) rfl rfl (by simp) (by decide) (by decide) (by decide) (by decide) rfl fun v_ h339 P340 sz341 => ?_
    obtain ⟨⟨c1, rfl, hc1⟩, e342⟩ := P340
    rw [e342]
    refine at' (ce' := 1) (sl' := 7) (pc' := 192) (L' := #[.val (.int (7 : Int32)), .val (.ref x), .val (.int p), .val (.long ja), .second, .val (.long jb), .second, .val (.ref a327)]) (S' := [(.int c1), (.int (1 : Int32)), (.ref a327)]) rfl rfl rfl rfl rfl ?_
    refine castore (pc' := 193) d_method_4_192 V330 ⟨by decide, by decide⟩ (by simp) (Nat.le_of_ble_eq_true rfl) rfl fun h343 W344 V345 => ?_
    replace K := K.wr W344 (Or.inr sz_a327)
    replace V330 : Arv Z h343 a327 kc331 .char (7 : Int32) [(.int (nar .char c0)), (.int (nar .char c1)), (.int (0 : Int32)), (.int (0 : Int32)), (.int (0 : Int32)), (.int (0 : Int32)), (.int (0 : Int32))] (.int (0 : Int32)) := V345
    refine iloadN (pc' := 194) d_method_4_193 rfl rfl ?_
    refine iconst (pc' := 195) (v := (2 : Int32)) d_method_4_194 rfl rfl ?_
    refine icmpF (pc' := 198) d_method_4_195 (by decide : (2 : Int32) < (7 : Int32)) rfl ?_
    refine aload (pc' := 200) d_method_4_198 rfl rfl rfl ?_
    refine iconst (pc' := 201) (v := (2 : Int32)) d_method_4_200 rfl rfl ?_
    refine aloadN (pc' := 202) d_method_4_201 rfl rfl rfl ?_
    refine iconst (pc' := 203) (v := (2 : Int32)) d_method_4_202 rfl rfl ?_
    refine iloadN (pc' := 204) d_method_4_203 rfl rfl ?_
    refine lloadN (pc' := 205) d_method_4_204 rfl rfl ?_
    refine lload (pc' := 207) d_method_4_205 rfl rfl ?_
    refine call (i := 29) (i2 := 24) (Wd := 2) (pc' := 210) (kStatic (i := 27) (i2 := 28) (i3 := 24) (i4 := 29) (argsL := [(.ref x), (.int (2 : Int32)), (.int p), (.long ja), (.long jb)]) (S' := [(.int (2 : Int32)), (.ref a327)]) (Wd := 2) d_method_4_207 rfl rfl rfl rfl (by decide) rfl pd_10 rfl rfl (Nat.le_of_ble_eq_true rfl)) (rm_at l Z a0 hw hEL n0 x cb 2 p ja jb 2 _ (Sx.ext (keepExt K)) hB rfl (by decide) hcb) rfl rfl (by simp) (by decide) (by decide) (by decide) (by decide) rfl fun v_ h346 P347 sz348 => ?_
    obtain ⟨⟨c2, rfl, hc2⟩, e349⟩ := P347
    rw [e349]
    refine at' (ce' := 1) (sl' := 7) (pc' := 210) (L' := #[.val (.int (7 : Int32)), .val (.ref x), .val (.int p), .val (.long ja), .second, .val (.long jb), .second, .val (.ref a327)]) (S' := [(.int c2), (.int (2 : Int32)), (.ref a327)]) rfl rfl rfl rfl rfl ?_
    refine castore (pc' := 211) d_method_4_210 V330 ⟨by decide, by decide⟩ (by simp) (Nat.le_of_ble_eq_true rfl) rfl fun h350 W351 V352 => ?_
    replace K := K.wr W351 (Or.inr sz_a327)
    replace V330 : Arv Z h350 a327 kc331 .char (7 : Int32) [(.int (nar .char c0)), (.int (nar .char c1)), (.int (nar .char c2)), (.int (0 : Int32)), (.int (0 : Int32)), (.int (0 : Int32)), (.int (0 : Int32))] (.int (0 : Int32)) := V352
    refine iloadN (pc' := 212) d_method_4_211 rfl rfl ?_
    refine iconst (pc' := 213) (v := (3 : Int32)) d_method_4_212 rfl rfl ?_
    refine icmpF (pc' := 216) d_method_4_213 (by decide : (3 : Int32) < (7 : Int32)) rfl ?_
    refine aload (pc' := 218) d_method_4_216 rfl rfl rfl ?_
    refine iconst (pc' := 219) (v := (3 : Int32)) d_method_4_218 rfl rfl ?_
    refine aloadN (pc' := 220) d_method_4_219 rfl rfl rfl ?_
    refine iconst (pc' := 221) (v := (3 : Int32)) d_method_4_220 rfl rfl ?_
    refine iloadN (pc' := 222) d_method_4_221 rfl rfl ?_
    refine lloadN (pc' := 223) d_method_4_222 rfl rfl ?_
    refine lload (pc' := 225) d_method_4_223 rfl rfl ?_
    refine call (i := 29) (i2 := 24) (Wd := 2) (pc' := 228) (kStatic (i := 27) (i2 := 28) (i3 := 24) (i4 := 29) (argsL := [(.ref x), (.int (3 : Int32)), (.int p), (.long ja), (.long jb)]) (S' := [(.int (3 : Int32)), (.ref a327)]) (Wd := 2) d_method_4_225 rfl rfl rfl rfl (by decide) rfl pd_10 rfl rfl (Nat.le_of_ble_eq_true rfl)) (rm_at l Z a0 hw hEL n0 x cb 3 p ja jb 3 _ (Sx.ext (keepExt K)) hB rfl (by decide) hcb) rfl rfl (by simp) (by decide) (by decide) (by decide) (by decide) rfl fun v_ h353 P354 sz355 => ?_
    obtain ⟨⟨c3, rfl, hc3⟩, e356⟩ := P354
    rw [e356]
    refine at' (ce' := 1) (sl' := 7) (pc' := 228) (L' := #[.val (.int (7 : Int32)), .val (.ref x), .val (.int p), .val (.long ja), .second, .val (.long jb), .second, .val (.ref a327)]) (S' := [(.int c3), (.int (3 : Int32)), (.ref a327)]) rfl rfl rfl rfl rfl ?_
    refine castore (pc' := 229) d_method_4_228 V330 ⟨by decide, by decide⟩ (by simp) (Nat.le_of_ble_eq_true rfl) rfl fun h357 W358 V359 => ?_
    replace K := K.wr W358 (Or.inr sz_a327)
    replace V330 : Arv Z h357 a327 kc331 .char (7 : Int32) [(.int (nar .char c0)), (.int (nar .char c1)), (.int (nar .char c2)), (.int (nar .char c3)), (.int (0 : Int32)), (.int (0 : Int32)), (.int (0 : Int32))] (.int (0 : Int32)) := V359
    refine iloadN (pc' := 230) d_method_4_229 rfl rfl ?_
    refine iconst (pc' := 231) (v := (4 : Int32)) d_method_4_230 rfl rfl ?_
    refine icmpF (pc' := 234) d_method_4_231 (by decide : (4 : Int32) < (7 : Int32)) rfl ?_
    refine aload (pc' := 236) d_method_4_234 rfl rfl rfl ?_
    refine iconst (pc' := 237) (v := (4 : Int32)) d_method_4_236 rfl rfl ?_
    refine aloadN (pc' := 238) d_method_4_237 rfl rfl rfl ?_
    refine iconst (pc' := 239) (v := (4 : Int32)) d_method_4_238 rfl rfl ?_
    refine iloadN (pc' := 240) d_method_4_239 rfl rfl ?_
    refine lloadN (pc' := 241) d_method_4_240 rfl rfl ?_
    refine lload (pc' := 243) d_method_4_241 rfl rfl ?_
    refine call (i := 29) (i2 := 24) (Wd := 2) (pc' := 246) (kStatic (i := 27) (i2 := 28) (i3 := 24) (i4 := 29) (argsL := [(.ref x), (.int (4 : Int32)), (.int p), (.long ja), (.long jb)]) (S' := [(.int (4 : Int32)), (.ref a327)]) (Wd := 2) d_method_4_243 rfl rfl rfl rfl (by decide) rfl pd_10 rfl rfl (Nat.le_of_ble_eq_true rfl)) (rm_at l Z a0 hw hEL n0 x cb 4 p ja jb 4 _ (Sx.ext (keepExt K)) hB rfl (by decide) hcb) rfl rfl (by simp) (by decide) (by decide) (by decide) (by decide) rfl fun v_ h360 P361 sz362 => ?_
    obtain ⟨⟨c4, rfl, hc4⟩, e363⟩ := P361
    rw [e363]
    refine at' (ce' := 1) (sl' := 7) (pc' := 246) (L' := #[.val (.int (7 : Int32)), .val (.ref x), .val (.int p), .val (.long ja), .second, .val (.long jb), .second, .val (.ref a327)]) (S' := [(.int c4), (.int (4 : Int32)), (.ref a327)]) rfl rfl rfl rfl rfl ?_
    refine castore (pc' := 247) d_method_4_246 V330 ⟨by decide, by decide⟩ (by simp) (Nat.le_of_ble_eq_true rfl) rfl fun h364 W365 V366 => ?_
    replace K := K.wr W365 (Or.inr sz_a327)
    replace V330 : Arv Z h364 a327 kc331 .char (7 : Int32) [(.int (nar .char c0)), (.int (nar .char c1)), (.int (nar .char c2)), (.int (nar .char c3)), (.int (nar .char c4)), (.int (0 : Int32)), (.int (0 : Int32))] (.int (0 : Int32)) := V366
    refine iloadN (pc' := 248) d_method_4_247 rfl rfl ?_
    refine iconst (pc' := 249) (v := (5 : Int32)) d_method_4_248 rfl rfl ?_
    refine icmpF (pc' := 252) d_method_4_249 (by decide : (5 : Int32) < (7 : Int32)) rfl ?_
    refine aload (pc' := 254) d_method_4_252 rfl rfl rfl ?_
    refine iconst (pc' := 255) (v := (5 : Int32)) d_method_4_254 rfl rfl ?_
    refine aloadN (pc' := 256) d_method_4_255 rfl rfl rfl ?_
    refine iconst (pc' := 257) (v := (5 : Int32)) d_method_4_256 rfl rfl ?_
    refine iloadN (pc' := 258) d_method_4_257 rfl rfl ?_
    refine lloadN (pc' := 259) d_method_4_258 rfl rfl ?_
    refine lload (pc' := 261) d_method_4_259 rfl rfl ?_
    refine call (i := 29) (i2 := 24) (Wd := 2) (pc' := 264) (kStatic (i := 27) (i2 := 28) (i3 := 24) (i4 := 29) (argsL := [(.ref x), (.int (5 : Int32)), (.int p), (.long ja), (.long jb)]) (S' := [(.int (5 : Int32)), (.ref a327)]) (Wd := 2) d_method_4_261 rfl rfl rfl rfl (by decide) rfl pd_10 rfl rfl (Nat.le_of_ble_eq_true rfl)) (rm_at l Z a0 hw hEL n0 x cb 5 p ja jb 5 _ (Sx.ext (keepExt K)) hB rfl (by decide) hcb) rfl rfl (by simp) (by decide) (by decide) (by decide) (by decide) rfl fun v_ h367 P368 sz369 => ?_
    obtain ⟨⟨c5, rfl, hc5⟩, e370⟩ := P368
    rw [e370]
    refine at' (ce' := 1) (sl' := 7) (pc' := 264) (L' := #[.val (.int (7 : Int32)), .val (.ref x), .val (.int p), .val (.long ja), .second, .val (.long jb), .second, .val (.ref a327)]) (S' := [(.int c5), (.int (5 : Int32)), (.ref a327)]) rfl rfl rfl rfl rfl ?_
    refine castore (pc' := 265) d_method_4_264 V330 ⟨by decide, by decide⟩ (by simp) (Nat.le_of_ble_eq_true rfl) rfl fun h371 W372 V373 => ?_
    replace K := K.wr W372 (Or.inr sz_a327)
    replace V330 : Arv Z h371 a327 kc331 .char (7 : Int32) [(.int (nar .char c0)), (.int (nar .char c1)), (.int (nar .char c2)), (.int (nar .char c3)), (.int (nar .char c4)), (.int (nar .char c5)), (.int (0 : Int32))] (.int (0 : Int32)) := V373
    refine iloadN (pc' := 266) d_method_4_265 rfl rfl ?_
    refine bipush (pc' := 268) (v := (6 : Int32)) d_method_4_266 rfl rfl ?_
    refine icmpF (pc' := 271) d_method_4_268 (by decide : (6 : Int32) < (7 : Int32)) rfl ?_
    refine aload (pc' := 273) d_method_4_271 rfl rfl rfl ?_
    refine bipush (pc' := 275) (v := (6 : Int32)) d_method_4_273 rfl rfl ?_
    refine aloadN (pc' := 276) d_method_4_275 rfl rfl rfl ?_
    refine bipush (pc' := 278) (v := (6 : Int32)) d_method_4_276 rfl rfl ?_
    refine iloadN (pc' := 279) d_method_4_278 rfl rfl ?_
    refine lloadN (pc' := 280) d_method_4_279 rfl rfl ?_
    refine lload (pc' := 282) d_method_4_280 rfl rfl ?_
    refine call (i := 29) (i2 := 24) (Wd := 2) (pc' := 285) (kStatic (i := 27) (i2 := 28) (i3 := 24) (i4 := 29) (argsL := [(.ref x), (.int (6 : Int32)), (.int p), (.long ja), (.long jb)]) (S' := [(.int (6 : Int32)), (.ref a327)]) (Wd := 2) d_method_4_282 rfl rfl rfl rfl (by decide) rfl pd_10 rfl rfl (Nat.le_of_ble_eq_true rfl)) (rm_at l Z a0 hw hEL n0 x cb 6 p ja jb 6 _ (Sx.ext (keepExt K)) hB rfl (by decide) hcb) rfl rfl (by simp) (by decide) (by decide) (by decide) (by decide) rfl fun v_ h374 P375 sz376 => ?_
    obtain ⟨⟨c6, rfl, hc6⟩, e377⟩ := P375
    rw [e377]
    refine at' (ce' := 1) (sl' := 7) (pc' := 285) (L' := #[.val (.int (7 : Int32)), .val (.ref x), .val (.int p), .val (.long ja), .second, .val (.long jb), .second, .val (.ref a327)]) (S' := [(.int c6), (.int (6 : Int32)), (.ref a327)]) rfl rfl rfl rfl rfl ?_
    refine castore (pc' := 286) d_method_4_285 V330 ⟨by decide, by decide⟩ (by simp) (Nat.le_of_ble_eq_true rfl) rfl fun h378 W379 V380 => ?_
    replace K := K.wr W379 (Or.inr sz_a327)
    replace V330 : Arv Z h378 a327 kc331 .char (7 : Int32) [(.int (nar .char c0)), (.int (nar .char c1)), (.int (nar .char c2)), (.int (nar .char c3)), (.int (nar .char c4)), (.int (nar .char c5)), (.int (nar .char c6))] (.int (0 : Int32)) := V380
    refine iloadN (pc' := 287) d_method_4_286 rfl rfl ?_
    refine bipush (pc' := 289) (v := (7 : Int32)) d_method_4_287 rfl rfl ?_
    refine icmpT (pc' := 307) d_method_4_289 (by decide : ¬ ((7 : Int32) < (7 : Int32))) (by decide) rfl ?_
    refine iloadN (pc' := 308) d_method_4_307 rfl rfl ?_
    refine bipush (pc' := 310) (v := (8 : Int32)) d_method_4_308 rfl rfl ?_
    refine icmpT (pc' := 328) d_method_4_310 (by decide : ¬ ((8 : Int32) < (7 : Int32))) (by decide) rfl ?_
    refine iloadN (pc' := 329) d_method_4_328 rfl rfl ?_
    refine bipush (pc' := 331) (v := (9 : Int32)) d_method_4_329 rfl rfl ?_
    refine icmpT (pc' := 349) d_method_4_331 (by decide : ¬ ((9 : Int32) < (7 : Int32))) (by decide) rfl ?_
    refine iloadN (pc' := 350) d_method_4_349 rfl rfl ?_
    refine bipush (pc' := 352) (v := (10 : Int32)) d_method_4_350 rfl rfl ?_
    refine icmpT (pc' := 370) d_method_4_352 (by decide : ¬ ((10 : Int32) < (7 : Int32))) (by decide) rfl ?_
    refine new (i := 52) (i2 := 2) (i3 := 1) (pc' := 373) d_method_4_370 rfl rfl rfl (by decide) (by decide) rfl fun h381 a382 g383 E384 A385 D386 => ?_
    have sz_a382 : h.size ≤ a382 := by rw [g383]; exact K.1
    have ne_a327_a382 : a327 ≠ a382 := Nat.ne_of_lt (by rw [g383]; exact V330.lt)
    replace K := K.ext E384
    replace V330 := V330.ext E384
    have F_value_a382 : Fld Z h381 a382 "java/lang/String" "value" "[B" .null := D386 (Or.inr (hw _ (List.mem_of_getElem? (i := 4) rfl))) (ty := (.array .byte)) (by decide)
    have F_coder_a382 : Fld Z h381 a382 "java/lang/String" "coder" "B" (.int (0 : Int32)) := D386 (Or.inr (hw _ (List.mem_of_getElem? (i := 5) rfl))) (ty := .byte) (by decide)
    refine dup (pc' := 374) d_method_4_373 rfl rfl ?_
    refine aload (pc' := 376) d_method_4_374 rfl rfl rfl ?_
    have Vb : Arv Z h381 a327 kc331 .char (7 : Int32) (List.map Value.int ([c0, c1, c2, c3, c4, c5, c6] : List Int32)) (.int (0 : Int32)) := by
      have q := V330
      rw [own_nar hc0, own_nar hc1, own_nar hc2, own_nar hc3, own_nar hc4, own_nar hc5, own_nar hc6] at q; exact q
    refine strNewW (i := 2) (Wd := 1) (n := 7) (cs := ([c0, c1, c2, c3, c4, c5, c6] : List Int32)) (pc' := 379) hB (by decide +kernel) rfl (kInit (i := 53) (i2 := 54) (i4 := 55) (a := a382) (argsL := [(.ref a327)]) (S' := [(.ref a382)]) (Wd := 1) d_method_4_376 rfl rfl rfl rfl (by decide) rfl pd_9 rfl rfl (Nat.le_of_ble_eq_true rfl)) A385 F_value_a382 F_coder_a382 Vb rfl rfl (by decide) (by intro c hc; simp only [List.mem_cons, List.not_mem_nil, or_false] at hc; rcases hc with rfl | rfl | rfl | rfl | rfl | rfl | rfl <;> assumption) (by simp) (by decide) (by decide) (by decide) (by decide) rfl fun hs Ks Ss => ?_
    replace K := K.trans Ks (allS (Or.inr sz_a382) all0)
    replace A385 := A385.keep Ks
    refine at' (ce' := 6) (sl' := 26) (pc' := 379) (L' := #[.val (.int (7 : Int32)), .val (.ref x), .val (.int p), .val (.long ja), .second, .val (.long jb), .second, .val (.ref a327)]) (S' := [(.ref a382)]) rfl rfl rfl rfl rfl ?_
    exact retA d_method_4_379 rfl rfl rfl (by decide) (by decide) ⟨a382, ([c0, c1, c2, c3, c4, c5, c6] : List Int32), rfl, keepExt K, Ss⟩
  · skip
    refine at' (ce' := 0) (sl' := 0) (pc' := 0) (L' := #[.val (.int (8 : Int32)), .val (.ref x), .val (.int p), .val (.long ja), .second, .val (.long jb), .second, .unset]) (S' := []) rfl rfl rfl rfl rfl ?_
    refine iloadN (pc' := 1) d_method_4_0 rfl rfl ?_
    refine ifT (pc' := 12) d_method_4_1 (by decide : ¬ ((8 : Int32) = (0 : Int32))) (by decide) rfl ?_
    refine iloadN (pc' := 13) d_method_4_12 rfl rfl ?_
    refine iconst (pc' := 14) (v := (1 : Int32)) d_method_4_13 rfl rfl ?_
    refine icmpT (pc' := 25) d_method_4_14 (by decide : ¬ ((8 : Int32) = (1 : Int32))) (by decide) rfl ?_
    refine iloadN (pc' := 26) d_method_4_25 rfl rfl ?_
    refine iconst (pc' := 27) (v := (2 : Int32)) d_method_4_26 rfl rfl ?_
    refine icmpT (pc' := 38) d_method_4_27 (by decide : ¬ ((8 : Int32) = (2 : Int32))) (by decide) rfl ?_
    refine iloadN (pc' := 39) d_method_4_38 rfl rfl ?_
    refine iconst (pc' := 40) (v := (3 : Int32)) d_method_4_39 rfl rfl ?_
    refine icmpT (pc' := 51) d_method_4_40 (by decide : ¬ ((8 : Int32) = (3 : Int32))) (by decide) rfl ?_
    refine iloadN (pc' := 52) d_method_4_51 rfl rfl ?_
    refine iconst (pc' := 53) (v := (4 : Int32)) d_method_4_52 rfl rfl ?_
    refine icmpT (pc' := 64) d_method_4_53 (by decide : ¬ ((8 : Int32) = (4 : Int32))) (by decide) rfl ?_
    refine iloadN (pc' := 65) d_method_4_64 rfl rfl ?_
    refine iconst (pc' := 66) (v := (5 : Int32)) d_method_4_65 rfl rfl ?_
    refine icmpT (pc' := 77) d_method_4_66 (by decide : ¬ ((8 : Int32) = (5 : Int32))) (by decide) rfl ?_
    refine iloadN (pc' := 78) d_method_4_77 rfl rfl ?_
    refine bipush (pc' := 80) (v := (6 : Int32)) d_method_4_78 rfl rfl ?_
    refine icmpT (pc' := 92) d_method_4_80 (by decide : ¬ ((8 : Int32) = (6 : Int32))) (by decide) rfl ?_
    refine iloadN (pc' := 93) d_method_4_92 rfl rfl ?_
    refine bipush (pc' := 95) (v := (7 : Int32)) d_method_4_93 rfl rfl ?_
    refine icmpT (pc' := 107) d_method_4_95 (by decide : ¬ ((8 : Int32) = (7 : Int32))) (by decide) rfl ?_
    refine iloadN (pc' := 108) d_method_4_107 rfl rfl ?_
    refine bipush (pc' := 110) (v := (8 : Int32)) d_method_4_108 rfl rfl ?_
    refine icmpF (pc' := 113) d_method_4_110 (by decide : (8 : Int32) = (8 : Int32)) rfl ?_
    refine bipush (pc' := 115) (v := (8 : Int32)) d_method_4_113 rfl rfl ?_
    refine newarray (i := 26) (cap := 8) (ty := .char) (pc' := 117) d_method_4_115 rfl rfl (by decide) (by decide) (by decide) (by decide) (by decide) rfl fun h387 a388 kc392 g389 E390 V391 => ?_
    have sz_a388 : h.size ≤ a388 := by rw [g389]; exact K.1
    replace K := K.ext E390
    replace V391 : Arv Z h387 a388 kc392 .char (8 : Int32) [(.int (0 : Int32)), (.int (0 : Int32)), (.int (0 : Int32)), (.int (0 : Int32)), (.int (0 : Int32)), (.int (0 : Int32)), (.int (0 : Int32)), (.int (0 : Int32))] (.int (0 : Int32)) := V391.pad (pad_rep [] (.int (0 : Int32)) 8)
    refine astore (pc' := 119) (L' := #[.val (.int (8 : Int32)), .val (.ref x), .val (.int p), .val (.long ja), .second, .val (.long jb), .second, .val (.ref a388)]) d_method_4_117 rfl rfl rfl ?_
    refine goto (pc' := 158) d_method_4_119 (by decide) rfl ?_
    refine iloadN (pc' := 159) d_method_4_158 rfl rfl ?_
    refine ifF (pc' := 162) d_method_4_159 (by decide : (0 : Int32) < (8 : Int32)) rfl ?_
    refine aload (pc' := 164) d_method_4_162 rfl rfl rfl ?_
    refine iconst (pc' := 165) (v := (0 : Int32)) d_method_4_164 rfl rfl ?_
    refine aloadN (pc' := 166) d_method_4_165 rfl rfl rfl ?_
    refine iconst (pc' := 167) (v := (0 : Int32)) d_method_4_166 rfl rfl ?_
    refine iloadN (pc' := 168) d_method_4_167 rfl rfl ?_
    refine lloadN (pc' := 169) d_method_4_168 rfl rfl ?_
    refine lload (pc' := 171) d_method_4_169 rfl rfl ?_
    refine call (i := 29) (i2 := 24) (Wd := 2) (pc' := 174) (kStatic (i := 27) (i2 := 28) (i3 := 24) (i4 := 29) (argsL := [(.ref x), (.int (0 : Int32)), (.int p), (.long ja), (.long jb)]) (S' := [(.int (0 : Int32)), (.ref a388)]) (Wd := 2) d_method_4_171 rfl rfl rfl rfl (by decide) rfl pd_10 rfl rfl (Nat.le_of_ble_eq_true rfl)) (rm_at l Z a0 hw hEL n0 x cb 0 p ja jb 0 _ (Sx.ext (keepExt K)) hB rfl (by decide) hcb) rfl rfl (by simp) (by decide) (by decide) (by decide) (by decide) rfl fun v_ h393 P394 sz395 => ?_
    obtain ⟨⟨c0, rfl, hc0⟩, e396⟩ := P394
    rw [e396]
    refine at' (ce' := 1) (sl' := 8) (pc' := 174) (L' := #[.val (.int (8 : Int32)), .val (.ref x), .val (.int p), .val (.long ja), .second, .val (.long jb), .second, .val (.ref a388)]) (S' := [(.int c0), (.int (0 : Int32)), (.ref a388)]) rfl rfl rfl rfl rfl ?_
    refine castore (pc' := 175) d_method_4_174 V391 ⟨by decide, by decide⟩ (by simp) (Nat.le_of_ble_eq_true rfl) rfl fun h397 W398 V399 => ?_
    replace K := K.wr W398 (Or.inr sz_a388)
    replace V391 : Arv Z h397 a388 kc392 .char (8 : Int32) [(.int (nar .char c0)), (.int (0 : Int32)), (.int (0 : Int32)), (.int (0 : Int32)), (.int (0 : Int32)), (.int (0 : Int32)), (.int (0 : Int32)), (.int (0 : Int32))] (.int (0 : Int32)) := V399
    refine iloadN (pc' := 176) d_method_4_175 rfl rfl ?_
    refine iconst (pc' := 177) (v := (1 : Int32)) d_method_4_176 rfl rfl ?_
    refine icmpF (pc' := 180) d_method_4_177 (by decide : (1 : Int32) < (8 : Int32)) rfl ?_
    refine aload (pc' := 182) d_method_4_180 rfl rfl rfl ?_
    refine iconst (pc' := 183) (v := (1 : Int32)) d_method_4_182 rfl rfl ?_
    refine aloadN (pc' := 184) d_method_4_183 rfl rfl rfl ?_
    refine iconst (pc' := 185) (v := (1 : Int32)) d_method_4_184 rfl rfl ?_
    refine iloadN (pc' := 186) d_method_4_185 rfl rfl ?_
    refine lloadN (pc' := 187) d_method_4_186 rfl rfl ?_
    refine lload (pc' := 189) d_method_4_187 rfl rfl ?_
    refine call (i := 29) (i2 := 24) (Wd := 2) (pc' := 192) (kStatic (i := 27) (i2 := 28) (i3 := 24) (i4 := 29) (argsL := [(.ref x), (.int (1 : Int32)), (.int p), (.long ja), (.long jb)]) (S' := [(.int (1 : Int32)), (.ref a388)]) (Wd := 2) d_method_4_189 rfl rfl rfl rfl (by decide) rfl pd_10 rfl rfl (Nat.le_of_ble_eq_true rfl)) (rm_at l Z a0 hw hEL n0 x cb 1 p ja jb 1 _ (Sx.ext (keepExt K)) hB rfl (by decide) hcb) rfl rfl (by simp) (by decide) (by decide) (by decide) (by decide) rfl fun v_ h400 P401 sz402 => ?_
    obtain ⟨⟨c1, rfl, hc1⟩, e403⟩ := P401
    rw [e403]
    refine at' (ce' := 1) (sl' := 8) (pc' := 192) (L' := #[.val (.int (8 : Int32)), .val (.ref x), .val (.int p), .val (.long ja), .second, .val (.long jb), .second, .val (.ref a388)]) (S' := [(.int c1), (.int (1 : Int32)), (.ref a388)]) rfl rfl rfl rfl rfl ?_
    refine castore (pc' := 193) d_method_4_192 V391 ⟨by decide, by decide⟩ (by simp) (Nat.le_of_ble_eq_true rfl) rfl fun h404 W405 V406 => ?_
    replace K := K.wr W405 (Or.inr sz_a388)
    replace V391 : Arv Z h404 a388 kc392 .char (8 : Int32) [(.int (nar .char c0)), (.int (nar .char c1)), (.int (0 : Int32)), (.int (0 : Int32)), (.int (0 : Int32)), (.int (0 : Int32)), (.int (0 : Int32)), (.int (0 : Int32))] (.int (0 : Int32)) := V406
    refine iloadN (pc' := 194) d_method_4_193 rfl rfl ?_
    refine iconst (pc' := 195) (v := (2 : Int32)) d_method_4_194 rfl rfl ?_
    refine icmpF (pc' := 198) d_method_4_195 (by decide : (2 : Int32) < (8 : Int32)) rfl ?_
    refine aload (pc' := 200) d_method_4_198 rfl rfl rfl ?_
    refine iconst (pc' := 201) (v := (2 : Int32)) d_method_4_200 rfl rfl ?_
    refine aloadN (pc' := 202) d_method_4_201 rfl rfl rfl ?_
    refine iconst (pc' := 203) (v := (2 : Int32)) d_method_4_202 rfl rfl ?_
    refine iloadN (pc' := 204) d_method_4_203 rfl rfl ?_
    refine lloadN (pc' := 205) d_method_4_204 rfl rfl ?_
    refine lload (pc' := 207) d_method_4_205 rfl rfl ?_
    refine call (i := 29) (i2 := 24) (Wd := 2) (pc' := 210) (kStatic (i := 27) (i2 := 28) (i3 := 24) (i4 := 29) (argsL := [(.ref x), (.int (2 : Int32)), (.int p), (.long ja), (.long jb)]) (S' := [(.int (2 : Int32)), (.ref a388)]) (Wd := 2) d_method_4_207 rfl rfl rfl rfl (by decide) rfl pd_10 rfl rfl (Nat.le_of_ble_eq_true rfl)) (rm_at l Z a0 hw hEL n0 x cb 2 p ja jb 2 _ (Sx.ext (keepExt K)) hB rfl (by decide) hcb) rfl rfl (by simp) (by decide) (by decide) (by decide) (by decide) rfl fun v_ h407 P408 sz409 => ?_
    obtain ⟨⟨c2, rfl, hc2⟩, e410⟩ := P408
    rw [e410]
    refine at' (ce' := 1) (sl' := 8) (pc' := 210) (L' := #[.val (.int (8 : Int32)), .val (.ref x), .val (.int p), .val (.long ja), .second, .val (.long jb), .second, .val (.ref a388)]) (S' := [(.int c2), (.int (2 : Int32)), (.ref a388)]) rfl rfl rfl rfl rfl ?_
    refine castore (pc' := 211) d_method_4_210 V391 ⟨by decide, by decide⟩ (by simp) (Nat.le_of_ble_eq_true rfl) rfl fun h411 W412 V413 => ?_
    replace K := K.wr W412 (Or.inr sz_a388)
    replace V391 : Arv Z h411 a388 kc392 .char (8 : Int32) [(.int (nar .char c0)), (.int (nar .char c1)), (.int (nar .char c2)), (.int (0 : Int32)), (.int (0 : Int32)), (.int (0 : Int32)), (.int (0 : Int32)), (.int (0 : Int32))] (.int (0 : Int32)) := V413
    refine iloadN (pc' := 212) d_method_4_211 rfl rfl ?_
    refine iconst (pc' := 213) (v := (3 : Int32)) d_method_4_212 rfl rfl ?_
    refine icmpF (pc' := 216) d_method_4_213 (by decide : (3 : Int32) < (8 : Int32)) rfl ?_
    refine aload (pc' := 218) d_method_4_216 rfl rfl rfl ?_
    refine iconst (pc' := 219) (v := (3 : Int32)) d_method_4_218 rfl rfl ?_
    refine aloadN (pc' := 220) d_method_4_219 rfl rfl rfl ?_
    refine iconst (pc' := 221) (v := (3 : Int32)) d_method_4_220 rfl rfl ?_
    refine iloadN (pc' := 222) d_method_4_221 rfl rfl ?_
    refine lloadN (pc' := 223) d_method_4_222 rfl rfl ?_
    refine lload (pc' := 225) d_method_4_223 rfl rfl ?_
    refine call (i := 29) (i2 := 24) (Wd := 2) (pc' := 228) (kStatic (i := 27) (i2 := 28) (i3 := 24) (i4 := 29) (argsL := [(.ref x), (.int (3 : Int32)), (.int p), (.long ja), (.long jb)]) (S' := [(.int (3 : Int32)), (.ref a388)]) (Wd := 2) d_method_4_225 rfl rfl rfl rfl (by decide) rfl pd_10 rfl rfl (Nat.le_of_ble_eq_true rfl)) (rm_at l Z a0 hw hEL n0 x cb 3 p ja jb 3 _ (Sx.ext (keepExt K)) hB rfl (by decide) hcb) rfl rfl (by simp) (by decide) (by decide) (by decide) (by decide) rfl fun v_ h414 P415 sz416 => ?_
    obtain ⟨⟨c3, rfl, hc3⟩, e417⟩ := P415
    rw [e417]
    refine at' (ce' := 1) (sl' := 8) (pc' := 228) (L' := #[.val (.int (8 : Int32)), .val (.ref x), .val (.int p), .val (.long ja), .second, .val (.long jb), .second, .val (.ref a388)]) (S' := [(.int c3), (.int (3 : Int32)), (.ref a388)]) rfl rfl rfl rfl rfl ?_
    refine castore (pc' := 229) d_method_4_228 V391 ⟨by decide, by decide⟩ (by simp) (Nat.le_of_ble_eq_true rfl) rfl fun h418 W419 V420 => ?_
    replace K := K.wr W419 (Or.inr sz_a388)
    replace V391 : Arv Z h418 a388 kc392 .char (8 : Int32) [(.int (nar .char c0)), (.int (nar .char c1)), (.int (nar .char c2)), (.int (nar .char c3)), (.int (0 : Int32)), (.int (0 : Int32)), (.int (0 : Int32)), (.int (0 : Int32))] (.int (0 : Int32)) := V420
    refine iloadN (pc' := 230) d_method_4_229 rfl rfl ?_
    refine iconst (pc' := 231) (v := (4 : Int32)) d_method_4_230 rfl rfl ?_
    refine icmpF (pc' := 234) d_method_4_231 (by decide : (4 : Int32) < (8 : Int32)) rfl ?_
    refine aload (pc' := 236) d_method_4_234 rfl rfl rfl ?_
    refine iconst (pc' := 237) (v := (4 : Int32)) d_method_4_236 rfl rfl ?_
    refine aloadN (pc' := 238) d_method_4_237 rfl rfl rfl ?_
    refine iconst (pc' := 239) (v := (4 : Int32)) d_method_4_238 rfl rfl ?_
    refine iloadN (pc' := 240) d_method_4_239 rfl rfl ?_
    refine lloadN (pc' := 241) d_method_4_240 rfl rfl ?_
    refine lload (pc' := 243) d_method_4_241 rfl rfl ?_
    refine call (i := 29) (i2 := 24) (Wd := 2) (pc' := 246) (kStatic (i := 27) (i2 := 28) (i3 := 24) (i4 := 29) (argsL := [(.ref x), (.int (4 : Int32)), (.int p), (.long ja), (.long jb)]) (S' := [(.int (4 : Int32)), (.ref a388)]) (Wd := 2) d_method_4_243 rfl rfl rfl rfl (by decide) rfl pd_10 rfl rfl (Nat.le_of_ble_eq_true rfl)) (rm_at l Z a0 hw hEL n0 x cb 4 p ja jb 4 _ (Sx.ext (keepExt K)) hB rfl (by decide) hcb) rfl rfl (by simp) (by decide) (by decide) (by decide) (by decide) rfl fun v_ h421 P422 sz423 => ?_
    obtain ⟨⟨c4, rfl, hc4⟩, e424⟩ := P422
    rw [e424]
    refine at' (ce' := 1) (sl' := 8) (pc' := 246) (L' := #[.val (.int (8 : Int32)), .val (.ref x), .val (.int p), .val (.long ja), .second, .val (.long jb), .second, .val (.ref a388)]) (S' := [(.int c4), (.int (4 : Int32)), (.ref a388)]) rfl rfl rfl rfl rfl ?_
    refine castore (pc' := 247) d_method_4_246 V391 ⟨by decide, by decide⟩ (by simp) (Nat.le_of_ble_eq_true rfl) rfl fun h425 W426 V427 => ?_
    replace K := K.wr W426 (Or.inr sz_a388)
    replace V391 : Arv Z h425 a388 kc392 .char (8 : Int32) [(.int (nar .char c0)), (.int (nar .char c1)), (.int (nar .char c2)), (.int (nar .char c3)), (.int (nar .char c4)), (.int (0 : Int32)), (.int (0 : Int32)), (.int (0 : Int32))] (.int (0 : Int32)) := V427
    refine iloadN (pc' := 248) d_method_4_247 rfl rfl ?_
    refine iconst (pc' := 249) (v := (5 : Int32)) d_method_4_248 rfl rfl ?_
    refine icmpF (pc' := 252) d_method_4_249 (by decide : (5 : Int32) < (8 : Int32)) rfl ?_
    refine aload (pc' := 254) d_method_4_252 rfl rfl rfl ?_
    refine iconst (pc' := 255) (v := (5 : Int32)) d_method_4_254 rfl rfl ?_
    refine aloadN (pc' := 256) d_method_4_255 rfl rfl rfl ?_
    refine iconst (pc' := 257) (v := (5 : Int32)) d_method_4_256 rfl rfl ?_
    refine iloadN (pc' := 258) d_method_4_257 rfl rfl ?_
    refine lloadN (pc' := 259) d_method_4_258 rfl rfl ?_
    refine lload (pc' := 261) d_method_4_259 rfl rfl ?_
    refine call (i := 29) (i2 := 24) (Wd := 2) (pc' := 264) (kStatic (i := 27) (i2 := 28) (i3 := 24) (i4 := 29) (argsL := [(.ref x), (.int (5 : Int32)), (.int p), (.long ja), (.long jb)]) (S' := [(.int (5 : Int32)), (.ref a388)]) (Wd := 2) d_method_4_261 rfl rfl rfl rfl (by decide) rfl pd_10 rfl rfl (Nat.le_of_ble_eq_true rfl)) (rm_at l Z a0 hw hEL n0 x cb 5 p ja jb 5 _ (Sx.ext (keepExt K)) hB rfl (by decide) hcb) rfl rfl (by simp) (by decide) (by decide) (by decide) (by decide) rfl fun v_ h428 P429 sz430 => ?_
    obtain ⟨⟨c5, rfl, hc5⟩, e431⟩ := P429
    rw [e431]
    refine at' (ce' := 1) (sl' := 8) (pc' := 264) (L' := #[.val (.int (8 : Int32)), .val (.ref x), .val (.int p), .val (.long ja), .second, .val (.long jb), .second, .val (.ref a388)]) (S' := [(.int c5), (.int (5 : Int32)), (.ref a388)]) rfl rfl rfl rfl rfl ?_
    refine castore (pc' := 265) d_method_4_264 V391 ⟨by decide, by decide⟩ (by simp) (Nat.le_of_ble_eq_true rfl) rfl fun h432 W433 V434 => ?_
    replace K := K.wr W433 (Or.inr sz_a388)
    replace V391 : Arv Z h432 a388 kc392 .char (8 : Int32) [(.int (nar .char c0)), (.int (nar .char c1)), (.int (nar .char c2)), (.int (nar .char c3)), (.int (nar .char c4)), (.int (nar .char c5)), (.int (0 : Int32)), (.int (0 : Int32))] (.int (0 : Int32)) := V434
    refine iloadN (pc' := 266) d_method_4_265 rfl rfl ?_
    refine bipush (pc' := 268) (v := (6 : Int32)) d_method_4_266 rfl rfl ?_
    refine icmpF (pc' := 271) d_method_4_268 (by decide : (6 : Int32) < (8 : Int32)) rfl ?_
    refine aload (pc' := 273) d_method_4_271 rfl rfl rfl ?_
    refine bipush (pc' := 275) (v := (6 : Int32)) d_method_4_273 rfl rfl ?_
    refine aloadN (pc' := 276) d_method_4_275 rfl rfl rfl ?_
    refine bipush (pc' := 278) (v := (6 : Int32)) d_method_4_276 rfl rfl ?_
    refine iloadN (pc' := 279) d_method_4_278 rfl rfl ?_
    refine lloadN (pc' := 280) d_method_4_279 rfl rfl ?_
    refine lload (pc' := 282) d_method_4_280 rfl rfl ?_
    refine call (i := 29) (i2 := 24) (Wd := 2) (pc' := 285) (kStatic (i := 27) (i2 := 28) (i3 := 24) (i4 := 29) (argsL := [(.ref x), (.int (6 : Int32)), (.int p), (.long ja), (.long jb)]) (S' := [(.int (6 : Int32)), (.ref a388)]) (Wd := 2) d_method_4_282 rfl rfl rfl rfl (by decide) rfl pd_10 rfl rfl (Nat.le_of_ble_eq_true rfl)) (rm_at l Z a0 hw hEL n0 x cb 6 p ja jb 6 _ (Sx.ext (keepExt K)) hB rfl (by decide) hcb) rfl rfl (by simp) (by decide) (by decide) (by decide) (by decide) rfl fun v_ h435 P436 sz437 => ?_
    obtain ⟨⟨c6, rfl, hc6⟩, e438⟩ := P436
    rw [e438]
    refine at' (ce' := 1) (sl' := 8) (pc' := 285) (L' := #[.val (.int (8 : Int32)), .val (.ref x), .val (.int p), .val (.long ja), .second, .val (.long jb), .second, .val (.ref a388)]) (S' := [(.int c6), (.int (6 : Int32)), (.ref a388)]) rfl rfl rfl rfl rfl ?_
    refine castore (pc' := 286) d_method_4_285 V391 ⟨by decide, by decide⟩ (by simp) (Nat.le_of_ble_eq_true rfl) rfl fun h439 W440 V441 => ?_
    replace K := K.wr W440 (Or.inr sz_a388)
    replace V391 : Arv Z h439 a388 kc392 .char (8 : Int32) [(.int (nar .char c0)), (.int (nar .char c1)), (.int (nar .char c2)), (.int (nar .char c3)), (.int (nar .char c4)), (.int (nar .char c5)), (.int (nar .char c6)), (.int (0 : Int32))] (.int (0 : Int32)) := V441
    refine iloadN (pc' := 287) d_method_4_286 rfl rfl ?_
    refine bipush (pc' := 289) (v := (7 : Int32)) d_method_4_287 rfl rfl ?_
    refine icmpF (pc' := 292) d_method_4_289 (by decide : (7 : Int32) < (8 : Int32)) rfl ?_
    refine aload (pc' := 294) d_method_4_292 rfl rfl rfl ?_
    refine bipush (pc' := 296) (v := (7 : Int32)) d_method_4_294 rfl rfl ?_
    refine aloadN (pc' := 297) d_method_4_296 rfl rfl rfl ?_
    refine bipush (pc' := 299) (v := (7 : Int32)) d_method_4_297 rfl rfl ?_
    refine iloadN (pc' := 300) d_method_4_299 rfl rfl ?_
    refine lloadN (pc' := 301) d_method_4_300 rfl rfl ?_
    refine lload (pc' := 303) d_method_4_301 rfl rfl ?_
    refine call (i := 29) (i2 := 24) (Wd := 2) (pc' := 306) (kStatic (i := 27) (i2 := 28) (i3 := 24) (i4 := 29) (argsL := [(.ref x), (.int (7 : Int32)), (.int p), (.long ja), (.long jb)]) (S' := [(.int (7 : Int32)), (.ref a388)]) (Wd := 2) d_method_4_303 rfl rfl rfl rfl (by decide) rfl pd_10 rfl rfl (Nat.le_of_ble_eq_true rfl)) (rm_at l Z a0 hw hEL n0 x cb 7 p ja jb 7 _ (Sx.ext (keepExt K)) hB rfl (by decide) hcb) rfl rfl (by simp) (by decide) (by decide) (by decide) (by decide) rfl fun v_ h442 P443 sz444 => ?_
    obtain ⟨⟨c7, rfl, hc7⟩, e445⟩ := P443
    rw [e445]
    refine at' (ce' := 1) (sl' := 8) (pc' := 306) (L' := #[.val (.int (8 : Int32)), .val (.ref x), .val (.int p), .val (.long ja), .second, .val (.long jb), .second, .val (.ref a388)]) (S' := [(.int c7), (.int (7 : Int32)), (.ref a388)]) rfl rfl rfl rfl rfl ?_
    refine castore (pc' := 307) d_method_4_306 V391 ⟨by decide, by decide⟩ (by simp) (Nat.le_of_ble_eq_true rfl) rfl fun h446 W447 V448 => ?_
    replace K := K.wr W447 (Or.inr sz_a388)
    replace V391 : Arv Z h446 a388 kc392 .char (8 : Int32) [(.int (nar .char c0)), (.int (nar .char c1)), (.int (nar .char c2)), (.int (nar .char c3)), (.int (nar .char c4)), (.int (nar .char c5)), (.int (nar .char c6)), (.int (nar .char c7))] (.int (0 : Int32)) := V448
    refine iloadN (pc' := 308) d_method_4_307 rfl rfl ?_
    refine bipush (pc' := 310) (v := (8 : Int32)) d_method_4_308 rfl rfl ?_
    refine icmpT (pc' := 328) d_method_4_310 (by decide : ¬ ((8 : Int32) < (8 : Int32))) (by decide) rfl ?_
    refine iloadN (pc' := 329) d_method_4_328 rfl rfl ?_
    refine bipush (pc' := 331) (v := (9 : Int32)) d_method_4_329 rfl rfl ?_
    refine icmpT (pc' := 349) d_method_4_331 (by decide : ¬ ((9 : Int32) < (8 : Int32))) (by decide) rfl ?_
    refine iloadN (pc' := 350) d_method_4_349 rfl rfl ?_
    refine bipush (pc' := 352) (v := (10 : Int32)) d_method_4_350 rfl rfl ?_
    refine icmpT (pc' := 370) d_method_4_352 (by decide : ¬ ((10 : Int32) < (8 : Int32))) (by decide) rfl ?_
    refine new (i := 52) (i2 := 2) (i3 := 1) (pc' := 373) d_method_4_370 rfl rfl rfl (by decide) (by decide) rfl fun h449 a450 g451 E452 A453 D454 => ?_
    have sz_a450 : h.size ≤ a450 := by rw [g451]; exact K.1
    have ne_a388_a450 : a388 ≠ a450 := Nat.ne_of_lt (by rw [g451]; exact V391.lt)
    replace K := K.ext E452
    replace V391 := V391.ext E452
    have F_value_a450 : Fld Z h449 a450 "java/lang/String" "value" "[B" .null := D454 (Or.inr (hw _ (List.mem_of_getElem? (i := 4) rfl))) (ty := (.array .byte)) (by decide)
    have F_coder_a450 : Fld Z h449 a450 "java/lang/String" "coder" "B" (.int (0 : Int32)) := D454 (Or.inr (hw _ (List.mem_of_getElem? (i := 5) rfl))) (ty := .byte) (by decide)
    refine dup (pc' := 374) d_method_4_373 rfl rfl ?_
    refine aload (pc' := 376) d_method_4_374 rfl rfl rfl ?_
    have Vb : Arv Z h449 a388 kc392 .char (8 : Int32) (List.map Value.int ([c0, c1, c2, c3, c4, c5, c6, c7] : List Int32)) (.int (0 : Int32)) := by
      have q := V391
      rw [own_nar hc0, own_nar hc1, own_nar hc2, own_nar hc3, own_nar hc4, own_nar hc5, own_nar hc6, own_nar hc7] at q; exact q
    refine strNewW (i := 2) (Wd := 1) (n := 8) (cs := ([c0, c1, c2, c3, c4, c5, c6, c7] : List Int32)) (pc' := 379) hB (by decide +kernel) rfl (kInit (i := 53) (i2 := 54) (i4 := 55) (a := a450) (argsL := [(.ref a388)]) (S' := [(.ref a450)]) (Wd := 1) d_method_4_376 rfl rfl rfl rfl (by decide) rfl pd_9 rfl rfl (Nat.le_of_ble_eq_true rfl)) A453 F_value_a450 F_coder_a450 Vb rfl rfl (by decide) (by intro c hc; simp only [List.mem_cons, List.not_mem_nil, or_false] at hc; rcases hc with rfl | rfl | rfl | rfl | rfl | rfl | rfl | rfl <;> assumption) (by simp) (by decide) (by decide) (by decide) (by decide) rfl fun hs Ks Ss => ?_
    replace K := K.trans Ks (allS (Or.inr sz_a450) all0)
    replace A453 := A453.keep Ks
    refine at' (ce' := 6) (sl' := 28) (pc' := 379) (L' := #[.val (.int (8 : Int32)), .val (.ref x), .val (.int p), .val (.long ja), .second, .val (.long jb), .second, .val (.ref a388)]) (S' := [(.ref a450)]) rfl rfl rfl rfl rfl ?_
    exact retA d_method_4_379 rfl rfl rfl (by decide) (by decide) ⟨a450, ([c0, c1, c2, c3, c4, c5, c6, c7] : List Int32), rfl, keepExt K, Ss⟩
  · skip
    refine at' (ce' := 0) (sl' := 0) (pc' := 0) (L' := #[.val (.int (9 : Int32)), .val (.ref x), .val (.int p), .val (.long ja), .second, .val (.long jb), .second, .unset]) (S' := []) rfl rfl rfl rfl rfl ?_
    refine iloadN (pc' := 1) d_method_4_0 rfl rfl ?_
    refine ifT (pc' := 12) d_method_4_1 (by decide : ¬ ((9 : Int32) = (0 : Int32))) (by decide) rfl ?_
    refine iloadN (pc' := 13) d_method_4_12 rfl rfl ?_
    refine iconst (pc' := 14) (v := (1 : Int32)) d_method_4_13 rfl rfl ?_
    refine icmpT (pc' := 25) d_method_4_14 (by decide : ¬ ((9 : Int32) = (1 : Int32))) (by decide) rfl ?_
    refine iloadN (pc' := 26) d_method_4_25 rfl rfl ?_
    refine iconst (pc' := 27) (v := (2 : Int32)) d_method_4_26 rfl rfl ?_
    refine icmpT (pc' := 38) d_method_4_27 (by decide : ¬ ((9 : Int32) = (2 : Int32))) (by decide) rfl ?_
    refine iloadN (pc' := 39) d_method_4_38 rfl rfl ?_
    refine iconst (pc' := 40) (v := (3 : Int32)) d_method_4_39 rfl rfl ?_
    refine icmpT (pc' := 51) d_method_4_40 (by decide : ¬ ((9 : Int32) = (3 : Int32))) (by decide) rfl ?_
    refine iloadN (pc' := 52) d_method_4_51 rfl rfl ?_
    refine iconst (pc' := 53) (v := (4 : Int32)) d_method_4_52 rfl rfl ?_
    refine icmpT (pc' := 64) d_method_4_53 (by decide : ¬ ((9 : Int32) = (4 : Int32))) (by decide) rfl ?_
    refine iloadN (pc' := 65) d_method_4_64 rfl rfl ?_
    refine iconst (pc' := 66) (v := (5 : Int32)) d_method_4_65 rfl rfl ?_
    refine icmpT (pc' := 77) d_method_4_66 (by decide : ¬ ((9 : Int32) = (5 : Int32))) (by decide) rfl ?_
    refine iloadN (pc' := 78) d_method_4_77 rfl rfl ?_
    refine bipush (pc' := 80) (v := (6 : Int32)) d_method_4_78 rfl rfl ?_
    refine icmpT (pc' := 92) d_method_4_80 (by decide : ¬ ((9 : Int32) = (6 : Int32))) (by decide) rfl ?_
    refine iloadN (pc' := 93) d_method_4_92 rfl rfl ?_
    refine bipush (pc' := 95) (v := (7 : Int32)) d_method_4_93 rfl rfl ?_
    refine icmpT (pc' := 107) d_method_4_95 (by decide : ¬ ((9 : Int32) = (7 : Int32))) (by decide) rfl ?_
    refine iloadN (pc' := 108) d_method_4_107 rfl rfl ?_
    refine bipush (pc' := 110) (v := (8 : Int32)) d_method_4_108 rfl rfl ?_
    refine icmpT (pc' := 122) d_method_4_110 (by decide : ¬ ((9 : Int32) = (8 : Int32))) (by decide) rfl ?_
    refine iloadN (pc' := 123) d_method_4_122 rfl rfl ?_
    refine bipush (pc' := 125) (v := (9 : Int32)) d_method_4_123 rfl rfl ?_
    refine icmpF (pc' := 128) d_method_4_125 (by decide : (9 : Int32) = (9 : Int32)) rfl ?_
    refine bipush (pc' := 130) (v := (9 : Int32)) d_method_4_128 rfl rfl ?_
    refine newarray (i := 26) (cap := 9) (ty := .char) (pc' := 132) d_method_4_130 rfl rfl (by decide) (by decide) (by decide) (by decide) (by decide) rfl fun h455 a456 kc460 g457 E458 V459 => ?_
    have sz_a456 : h.size ≤ a456 := by rw [g457]; exact K.1
    replace K := K.ext E458
    replace V459 : Arv Z h455 a456 kc460 .char (9 : Int32) [(.int (0 : Int32)), (.int (0 : Int32)), (.int (0 : Int32)), (.int (0 : Int32)), (.int (0 : Int32)), (.int (0 : Int32)), (.int (0 : Int32)), (.int (0 : Int32)), (.int (0 : Int32))] (.int (0 : Int32)) := V459.pad (pad_rep [] (.int (0 : Int32)) 9)
    refine astore (pc' := 134) (L' := #[.val (.int (9 : Int32)), .val (.ref x), .val (.int p), .val (.long ja), .second, .val (.long jb), .second, .val (.ref a456)]) d_method_4_132 rfl rfl rfl ?_
    refine goto (pc' := 158) d_method_4_134 (by decide) rfl ?_
    refine iloadN (pc' := 159) d_method_4_158 rfl rfl ?_
    refine ifF (pc' := 162) d_method_4_159 (by decide : (0 : Int32) < (9 : Int32)) rfl ?_
    refine aload (pc' := 164) d_method_4_162 rfl rfl rfl ?_
    refine iconst (pc' := 165) (v := (0 : Int32)) d_method_4_164 rfl rfl ?_
    refine aloadN (pc' := 166) d_method_4_165 rfl rfl rfl ?_
    refine iconst (pc' := 167) (v := (0 : Int32)) d_method_4_166 rfl rfl ?_
    refine iloadN (pc' := 168) d_method_4_167 rfl rfl ?_
    refine lloadN (pc' := 169) d_method_4_168 rfl rfl ?_
    refine lload (pc' := 171) d_method_4_169 rfl rfl ?_
    refine call (i := 29) (i2 := 24) (Wd := 2) (pc' := 174) (kStatic (i := 27) (i2 := 28) (i3 := 24) (i4 := 29) (argsL := [(.ref x), (.int (0 : Int32)), (.int p), (.long ja), (.long jb)]) (S' := [(.int (0 : Int32)), (.ref a456)]) (Wd := 2) d_method_4_171 rfl rfl rfl rfl (by decide) rfl pd_10 rfl rfl (Nat.le_of_ble_eq_true rfl)) (rm_at l Z a0 hw hEL n0 x cb 0 p ja jb 0 _ (Sx.ext (keepExt K)) hB rfl (by decide) hcb) rfl rfl (by simp) (by decide) (by decide) (by decide) (by decide) rfl fun v_ h461 P462 sz463 => ?_
    obtain ⟨⟨c0, rfl, hc0⟩, e464⟩ := P462
    rw [e464]
    refine at' (ce' := 1) (sl' := 9) (pc' := 174) (L' := #[.val (.int (9 : Int32)), .val (.ref x), .val (.int p), .val (.long ja), .second, .val (.long jb), .second, .val (.ref a456)]) (S' := [(.int c0), (.int (0 : Int32)), (.ref a456)]) rfl rfl rfl rfl rfl ?_
    refine castore (pc' := 175) d_method_4_174 V459 ⟨by decide, by decide⟩ (by simp) (Nat.le_of_ble_eq_true rfl) rfl fun h465 W466 V467 => ?_
    replace K := K.wr W466 (Or.inr sz_a456)
    replace V459 : Arv Z h465 a456 kc460 .char (9 : Int32) [(.int (nar .char c0)), (.int (0 : Int32)), (.int (0 : Int32)), (.int (0 : Int32)), (.int (0 : Int32)), (.int (0 : Int32)), (.int (0 : Int32)), (.int (0 : Int32)), (.int (0 : Int32))] (.int (0 : Int32)) := V467
    refine iloadN (pc' := 176) d_method_4_175 rfl rfl ?_
    refine iconst (pc' := 177) (v := (1 : Int32)) d_method_4_176 rfl rfl ?_
    refine icmpF (pc' := 180) d_method_4_177 (by decide : (1 : Int32) < (9 : Int32)) rfl ?_
    refine aload (pc' := 182) d_method_4_180 rfl rfl rfl ?_
    refine iconst (pc' := 183) (v := (1 : Int32)) d_method_4_182 rfl rfl ?_
    refine aloadN (pc' := 184) d_method_4_183 rfl rfl rfl ?_
    refine iconst (pc' := 185) (v := (1 : Int32)) d_method_4_184 rfl rfl ?_
    refine iloadN (pc' := 186) d_method_4_185 rfl rfl ?_
    refine lloadN (pc' := 187) d_method_4_186 rfl rfl ?_
    refine lload (pc' := 189) d_method_4_187 rfl rfl ?_
    refine call (i := 29) (i2 := 24) (Wd := 2) (pc' := 192) (kStatic (i := 27) (i2 := 28) (i3 := 24) (i4 := 29) (argsL := [(.ref x), (.int (1 : Int32)), (.int p), (.long ja), (.long jb)]) (S' := [(.int (1 : Int32)), (.ref a456)]) (Wd := 2) d_method_4_189 rfl rfl rfl rfl (by decide) rfl pd_10 rfl rfl (Nat.le_of_ble_eq_true rfl)) (rm_at l Z a0 hw hEL n0 x cb 1 p ja jb 1 _ (Sx.ext (keepExt K)) hB rfl (by decide) hcb) rfl rfl (by simp) (by decide) (by decide) (by decide) (by decide) rfl fun v_ h468 P469 sz470 => ?_
    obtain ⟨⟨c1, rfl, hc1⟩, e471⟩ := P469
    rw [e471]
    refine at' (ce' := 1) (sl' := 9) (pc' := 192) (L' := #[.val (.int (9 : Int32)), .val (.ref x), .val (.int p), .val (.long ja), .second, .val (.long jb), .second, .val (.ref a456)]) (S' := [(.int c1), (.int (1 : Int32)), (.ref a456)]) rfl rfl rfl rfl rfl ?_
    refine castore (pc' := 193) d_method_4_192 V459 ⟨by decide, by decide⟩ (by simp) (Nat.le_of_ble_eq_true rfl) rfl fun h472 W473 V474 => ?_
    replace K := K.wr W473 (Or.inr sz_a456)
    replace V459 : Arv Z h472 a456 kc460 .char (9 : Int32) [(.int (nar .char c0)), (.int (nar .char c1)), (.int (0 : Int32)), (.int (0 : Int32)), (.int (0 : Int32)), (.int (0 : Int32)), (.int (0 : Int32)), (.int (0 : Int32)), (.int (0 : Int32))] (.int (0 : Int32)) := V474
    refine iloadN (pc' := 194) d_method_4_193 rfl rfl ?_
    refine iconst (pc' := 195) (v := (2 : Int32)) d_method_4_194 rfl rfl ?_
    refine icmpF (pc' := 198) d_method_4_195 (by decide : (2 : Int32) < (9 : Int32)) rfl ?_
    refine aload (pc' := 200) d_method_4_198 rfl rfl rfl ?_
    refine iconst (pc' := 201) (v := (2 : Int32)) d_method_4_200 rfl rfl ?_
    refine aloadN (pc' := 202) d_method_4_201 rfl rfl rfl ?_
    refine iconst (pc' := 203) (v := (2 : Int32)) d_method_4_202 rfl rfl ?_
    refine iloadN (pc' := 204) d_method_4_203 rfl rfl ?_
    refine lloadN (pc' := 205) d_method_4_204 rfl rfl ?_
    refine lload (pc' := 207) d_method_4_205 rfl rfl ?_
    refine call (i := 29) (i2 := 24) (Wd := 2) (pc' := 210) (kStatic (i := 27) (i2 := 28) (i3 := 24) (i4 := 29) (argsL := [(.ref x), (.int (2 : Int32)), (.int p), (.long ja), (.long jb)]) (S' := [(.int (2 : Int32)), (.ref a456)]) (Wd := 2) d_method_4_207 rfl rfl rfl rfl (by decide) rfl pd_10 rfl rfl (Nat.le_of_ble_eq_true rfl)) (rm_at l Z a0 hw hEL n0 x cb 2 p ja jb 2 _ (Sx.ext (keepExt K)) hB rfl (by decide) hcb) rfl rfl (by simp) (by decide) (by decide) (by decide) (by decide) rfl fun v_ h475 P476 sz477 => ?_
    obtain ⟨⟨c2, rfl, hc2⟩, e478⟩ := P476
    rw [e478]
    refine at' (ce' := 1) (sl' := 9) (pc' := 210) (L' := #[.val (.int (9 : Int32)), .val (.ref x), .val (.int p), .val (.long ja), .second, .val (.long jb), .second, .val (.ref a456)]) (S' := [(.int c2), (.int (2 : Int32)), (.ref a456)]) rfl rfl rfl rfl rfl ?_
    refine castore (pc' := 211) d_method_4_210 V459 ⟨by decide, by decide⟩ (by simp) (Nat.le_of_ble_eq_true rfl) rfl fun h479 W480 V481 => ?_
    replace K := K.wr W480 (Or.inr sz_a456)
    replace V459 : Arv Z h479 a456 kc460 .char (9 : Int32) [(.int (nar .char c0)), (.int (nar .char c1)), (.int (nar .char c2)), (.int (0 : Int32)), (.int (0 : Int32)), (.int (0 : Int32)), (.int (0 : Int32)), (.int (0 : Int32)), (.int (0 : Int32))] (.int (0 : Int32)) := V481
    refine iloadN (pc' := 212) d_method_4_211 rfl rfl ?_
    refine iconst (pc' := 213) (v := (3 : Int32)) d_method_4_212 rfl rfl ?_
    refine icmpF (pc' := 216) d_method_4_213 (by decide : (3 : Int32) < (9 : Int32)) rfl ?_
    refine aload (pc' := 218) d_method_4_216 rfl rfl rfl ?_
    refine iconst (pc' := 219) (v := (3 : Int32)) d_method_4_218 rfl rfl ?_
    refine aloadN (pc' := 220) d_method_4_219 rfl rfl rfl ?_
    refine iconst (pc' := 221) (v := (3 : Int32)) d_method_4_220 rfl rfl ?_
    refine iloadN (pc' := 222) d_method_4_221 rfl rfl ?_
    refine lloadN (pc' := 223) d_method_4_222 rfl rfl ?_
    refine lload (pc' := 225) d_method_4_223 rfl rfl ?_
    refine call (i := 29) (i2 := 24) (Wd := 2) (pc' := 228) (kStatic (i := 27) (i2 := 28) (i3 := 24) (i4 := 29) (argsL := [(.ref x), (.int (3 : Int32)), (.int p), (.long ja), (.long jb)]) (S' := [(.int (3 : Int32)), (.ref a456)]) (Wd := 2) d_method_4_225 rfl rfl rfl rfl (by decide) rfl pd_10 rfl rfl (Nat.le_of_ble_eq_true rfl)) (rm_at l Z a0 hw hEL n0 x cb 3 p ja jb 3 _ (Sx.ext (keepExt K)) hB rfl (by decide) hcb) rfl rfl (by simp) (by decide) (by decide) (by decide) (by decide) rfl fun v_ h482 P483 sz484 => ?_
    obtain ⟨⟨c3, rfl, hc3⟩, e485⟩ := P483
    rw [e485]
    refine at' (ce' := 1) (sl' := 9) (pc' := 228) (L' := #[.val (.int (9 : Int32)), .val (.ref x), .val (.int p), .val (.long ja), .second, .val (.long jb), .second, .val (.ref a456)]) (S' := [(.int c3), (.int (3 : Int32)), (.ref a456)]) rfl rfl rfl rfl rfl ?_
    refine castore (pc' := 229) d_method_4_228 V459 ⟨by decide, by decide⟩ (by simp) (Nat.le_of_ble_eq_true rfl) rfl fun h486 W487 V488 => ?_
    replace K := K.wr W487 (Or.inr sz_a456)
    replace V459 : Arv Z h486 a456 kc460 .char (9 : Int32) [(.int (nar .char c0)), (.int (nar .char c1)), (.int (nar .char c2)), (.int (nar .char c3)), (.int (0 : Int32)), (.int (0 : Int32)), (.int (0 : Int32)), (.int (0 : Int32)), (.int (0 : Int32))] (.int (0 : Int32)) := V488
    refine iloadN (pc' := 230) d_method_4_229 rfl rfl ?_
    refine iconst (pc' := 231) (v := (4 : Int32)) d_method_4_230 rfl rfl ?_
    refine icmpF (pc' := 234) d_method_4_231 (by decide : (4 : Int32) < (9 : Int32)) rfl ?_
    refine aload (pc' := 236) d_method_4_234 rfl rfl rfl ?_
    refine iconst (pc' := 237) (v := (4 : Int32)) d_method_4_236 rfl rfl ?_
    refine aloadN (pc' := 238) d_method_4_237 rfl rfl rfl ?_
    refine iconst (pc' := 239) (v := (4 : Int32)) d_method_4_238 rfl rfl ?_
    refine iloadN (pc' := 240) d_method_4_239 rfl rfl ?_
    refine lloadN (pc' := 241) d_method_4_240 rfl rfl ?_
    refine lload (pc' := 243) d_method_4_241 rfl rfl ?_
    refine call (i := 29) (i2 := 24) (Wd := 2) (pc' := 246) (kStatic (i := 27) (i2 := 28) (i3 := 24) (i4 := 29) (argsL := [(.ref x), (.int (4 : Int32)), (.int p), (.long ja), (.long jb)]) (S' := [(.int (4 : Int32)), (.ref a456)]) (Wd := 2) d_method_4_243 rfl rfl rfl rfl (by decide) rfl pd_10 rfl rfl (Nat.le_of_ble_eq_true rfl)) (rm_at l Z a0 hw hEL n0 x cb 4 p ja jb 4 _ (Sx.ext (keepExt K)) hB rfl (by decide) hcb) rfl rfl (by simp) (by decide) (by decide) (by decide) (by decide) rfl fun v_ h489 P490 sz491 => ?_
    obtain ⟨⟨c4, rfl, hc4⟩, e492⟩ := P490
    rw [e492]
    refine at' (ce' := 1) (sl' := 9) (pc' := 246) (L' := #[.val (.int (9 : Int32)), .val (.ref x), .val (.int p), .val (.long ja), .second, .val (.long jb), .second, .val (.ref a456)]) (S' := [(.int c4), (.int (4 : Int32)), (.ref a456)]) rfl rfl rfl rfl rfl ?_
    refine castore (pc' := 247) d_method_4_246 V459 ⟨by decide, by decide⟩ (by simp) (Nat.le_of_ble_eq_true rfl) rfl fun h493 W494 V495 => ?_
    replace K := K.wr W494 (Or.inr sz_a456)
    replace V459 : Arv Z h493 a456 kc460 .char (9 : Int32) [(.int (nar .char c0)), (.int (nar .char c1)), (.int (nar .char c2)), (.int (nar .char c3)), (.int (nar .char c4)), (.int (0 : Int32)), (.int (0 : Int32)), (.int (0 : Int32)), (.int (0 : Int32))] (.int (0 : Int32)) := V495
    refine iloadN (pc' := 248) d_method_4_247 rfl rfl ?_
    refine iconst (pc' := 249) (v := (5 : Int32)) d_method_4_248 rfl rfl ?_
    refine icmpF (pc' := 252) d_method_4_249 (by decide : (5 : Int32) < (9 : Int32)) rfl ?_
    refine aload (pc' := 254) d_method_4_252 rfl rfl rfl ?_
    refine iconst (pc' := 255) (v := (5 : Int32)) d_method_4_254 rfl rfl ?_
    refine aloadN (pc' := 256) d_method_4_255 rfl rfl rfl ?_
    refine iconst (pc' := 257) (v := (5 : Int32)) d_method_4_256 rfl rfl ?_
    refine iloadN (pc' := 258) d_method_4_257 rfl rfl ?_
    refine lloadN (pc' := 259) d_method_4_258 rfl rfl ?_
    refine lload (pc' := 261) d_method_4_259 rfl rfl ?_
    refine call (i := 29) (i2 := 24) (Wd := 2) (pc' := 264) (kStatic (i := 27) (i2 := 28) (i3 := 24) (i4 := 29) (argsL := [(.ref x), (.int (5 : Int32)), (.int p), (.long ja), (.long jb)]) (S' := [(.int (5 : Int32)), (.ref a456)]) (Wd := 2) d_method_4_261 rfl rfl rfl rfl (by decide) rfl pd_10 rfl rfl (Nat.le_of_ble_eq_true rfl)) (rm_at l Z a0 hw hEL n0 x cb 5 p ja jb 5 _ (Sx.ext (keepExt K)) hB rfl (by decide) hcb) rfl rfl (by simp) (by decide) (by decide) (by decide) (by decide) rfl fun v_ h496 P497 sz498 => ?_
    obtain ⟨⟨c5, rfl, hc5⟩, e499⟩ := P497
    rw [e499]
    refine at' (ce' := 1) (sl' := 9) (pc' := 264) (L' := #[.val (.int (9 : Int32)), .val (.ref x), .val (.int p), .val (.long ja), .second, .val (.long jb), .second, .val (.ref a456)]) (S' := [(.int c5), (.int (5 : Int32)), (.ref a456)]) rfl rfl rfl rfl rfl ?_
    refine castore (pc' := 265) d_method_4_264 V459 ⟨by decide, by decide⟩ (by simp) (Nat.le_of_ble_eq_true rfl) rfl fun h500 W501 V502 => ?_
    replace K := K.wr W501 (Or.inr sz_a456)
    replace V459 : Arv Z h500 a456 kc460 .char (9 : Int32) [(.int (nar .char c0)), (.int (nar .char c1)), (.int (nar .char c2)), (.int (nar .char c3)), (.int (nar .char c4)), (.int (nar .char c5)), (.int (0 : Int32)), (.int (0 : Int32)), (.int (0 : Int32))] (.int (0 : Int32)) := V502
    refine iloadN (pc' := 266) d_method_4_265 rfl rfl ?_
    refine bipush (pc' := 268) (v := (6 : Int32)) d_method_4_266 rfl rfl ?_
    refine icmpF (pc' := 271) d_method_4_268 (by decide : (6 : Int32) < (9 : Int32)) rfl ?_
    refine aload (pc' := 273) d_method_4_271 rfl rfl rfl ?_
    refine bipush (pc' := 275) (v := (6 : Int32)) d_method_4_273 rfl rfl ?_
    refine aloadN (pc' := 276) d_method_4_275 rfl rfl rfl ?_
    refine bipush (pc' := 278) (v := (6 : Int32)) d_method_4_276 rfl rfl ?_
    refine iloadN (pc' := 279) d_method_4_278 rfl rfl ?_
    refine lloadN (pc' := 280) d_method_4_279 rfl rfl ?_
    refine lload (pc' := 282) d_method_4_280 rfl rfl ?_
    refine call (i := 29) (i2 := 24) (Wd := 2) (pc' := 285) (kStatic (i := 27) (i2 := 28) (i3 := 24) (i4 := 29) (argsL := [(.ref x), (.int (6 : Int32)), (.int p), (.long ja), (.long jb)]) (S' := [(.int (6 : Int32)), (.ref a456)]) (Wd := 2) d_method_4_282 rfl rfl rfl rfl (by decide) rfl pd_10 rfl rfl (Nat.le_of_ble_eq_true rfl)) (rm_at l Z a0 hw hEL n0 x cb 6 p ja jb 6 _ (Sx.ext (keepExt K)) hB rfl (by decide) hcb) rfl rfl (by simp) (by decide) (by decide) (by decide) (by decide) rfl fun v_ h503 P504 sz505 => ?_
    obtain ⟨⟨c6, rfl, hc6⟩, e506⟩ := P504
    rw [e506]
    refine at' (ce' := 1) (sl' := 9) (pc' := 285) (L' := #[.val (.int (9 : Int32)), .val (.ref x), .val (.int p), .val (.long ja), .second, .val (.long jb), .second, .val (.ref a456)]) (S' := [(.int c6), (.int (6 : Int32)), (.ref a456)]) rfl rfl rfl rfl rfl ?_
    refine castore (pc' := 286) d_method_4_285 V459 ⟨by decide, by decide⟩ (by simp) (Nat.le_of_ble_eq_true rfl) rfl fun h507 W508 V509 => ?_
    replace K := K.wr W508 (Or.inr sz_a456)
    replace V459 : Arv Z h507 a456 kc460 .char (9 : Int32) [(.int (nar .char c0)), (.int (nar .char c1)), (.int (nar .char c2)), (.int (nar .char c3)), (.int (nar .char c4)), (.int (nar .char c5)), (.int (nar .char c6)), (.int (0 : Int32)), (.int (0 : Int32))] (.int (0 : Int32)) := V509
    refine iloadN (pc' := 287) d_method_4_286 rfl rfl ?_
    refine bipush (pc' := 289) (v := (7 : Int32)) d_method_4_287 rfl rfl ?_
    refine icmpF (pc' := 292) d_method_4_289 (by decide : (7 : Int32) < (9 : Int32)) rfl ?_
    refine aload (pc' := 294) d_method_4_292 rfl rfl rfl ?_
    refine bipush (pc' := 296) (v := (7 : Int32)) d_method_4_294 rfl rfl ?_
    refine aloadN (pc' := 297) d_method_4_296 rfl rfl rfl ?_
    refine bipush (pc' := 299) (v := (7 : Int32)) d_method_4_297 rfl rfl ?_
    refine iloadN (pc' := 300) d_method_4_299 rfl rfl ?_
    refine lloadN (pc' := 301) d_method_4_300 rfl rfl ?_
    refine lload (pc' := 303) d_method_4_301 rfl rfl ?_
    refine call (i := 29) (i2 := 24) (Wd := 2) (pc' := 306) (kStatic (i := 27) (i2 := 28) (i3 := 24) (i4 := 29) (argsL := [(.ref x), (.int (7 : Int32)), (.int p), (.long ja), (.long jb)]) (S' := [(.int (7 : Int32)), (.ref a456)]) (Wd := 2) d_method_4_303 rfl rfl rfl rfl (by decide) rfl pd_10 rfl rfl (Nat.le_of_ble_eq_true rfl)) (rm_at l Z a0 hw hEL n0 x cb 7 p ja jb 7 _ (Sx.ext (keepExt K)) hB rfl (by decide) hcb) rfl rfl (by simp) (by decide) (by decide) (by decide) (by decide) rfl fun v_ h510 P511 sz512 => ?_
    obtain ⟨⟨c7, rfl, hc7⟩, e513⟩ := P511
    rw [e513]
    refine at' (ce' := 1) (sl' := 9) (pc' := 306) (L' := #[.val (.int (9 : Int32)), .val (.ref x), .val (.int p), .val (.long ja), .second, .val (.long jb), .second, .val (.ref a456)]) (S' := [(.int c7), (.int (7 : Int32)), (.ref a456)]) rfl rfl rfl rfl rfl ?_
    refine castore (pc' := 307) d_method_4_306 V459 ⟨by decide, by decide⟩ (by simp) (Nat.le_of_ble_eq_true rfl) rfl fun h514 W515 V516 => ?_
    replace K := K.wr W515 (Or.inr sz_a456)
    replace V459 : Arv Z h514 a456 kc460 .char (9 : Int32) [(.int (nar .char c0)), (.int (nar .char c1)), (.int (nar .char c2)), (.int (nar .char c3)), (.int (nar .char c4)), (.int (nar .char c5)), (.int (nar .char c6)), (.int (nar .char c7)), (.int (0 : Int32))] (.int (0 : Int32)) := V516
    refine iloadN (pc' := 308) d_method_4_307 rfl rfl ?_
    refine bipush (pc' := 310) (v := (8 : Int32)) d_method_4_308 rfl rfl ?_
    refine icmpF (pc' := 313) d_method_4_310 (by decide : (8 : Int32) < (9 : Int32)) rfl ?_
    refine aload (pc' := 315) d_method_4_313 rfl rfl rfl ?_
    refine bipush (pc' := 317) (v := (8 : Int32)) d_method_4_315 rfl rfl ?_
    refine aloadN (pc' := 318) d_method_4_317 rfl rfl rfl ?_
    refine bipush (pc' := 320) (v := (8 : Int32)) d_method_4_318 rfl rfl ?_
    refine iloadN (pc' := 321) d_method_4_320 rfl rfl ?_
    refine lloadN (pc' := 322) d_method_4_321 rfl rfl ?_
    refine lload (pc' := 324) d_method_4_322 rfl rfl ?_
    refine call (i := 29) (i2 := 24) (Wd := 2) (pc' := 327) (kStatic (i := 27) (i2 := 28) (i3 := 24) (i4 := 29) (argsL := [(.ref x), (.int (8 : Int32)), (.int p), (.long ja), (.long jb)]) (S' := [(.int (8 : Int32)), (.ref a456)]) (Wd := 2) d_method_4_324 rfl rfl rfl rfl (by decide) rfl pd_10 rfl rfl (Nat.le_of_ble_eq_true rfl)) (rm_at l Z a0 hw hEL n0 x cb 8 p ja jb 8 _ (Sx.ext (keepExt K)) hB rfl (by decide) hcb) rfl rfl (by simp) (by decide) (by decide) (by decide) (by decide) rfl fun v_ h517 P518 sz519 => ?_
    obtain ⟨⟨c8, rfl, hc8⟩, e520⟩ := P518
    rw [e520]
    refine at' (ce' := 1) (sl' := 9) (pc' := 327) (L' := #[.val (.int (9 : Int32)), .val (.ref x), .val (.int p), .val (.long ja), .second, .val (.long jb), .second, .val (.ref a456)]) (S' := [(.int c8), (.int (8 : Int32)), (.ref a456)]) rfl rfl rfl rfl rfl ?_
    refine castore (pc' := 328) d_method_4_327 V459 ⟨by decide, by decide⟩ (by simp) (Nat.le_of_ble_eq_true rfl) rfl fun h521 W522 V523 => ?_
    replace K := K.wr W522 (Or.inr sz_a456)
    replace V459 : Arv Z h521 a456 kc460 .char (9 : Int32) [(.int (nar .char c0)), (.int (nar .char c1)), (.int (nar .char c2)), (.int (nar .char c3)), (.int (nar .char c4)), (.int (nar .char c5)), (.int (nar .char c6)), (.int (nar .char c7)), (.int (nar .char c8))] (.int (0 : Int32)) := V523
    refine iloadN (pc' := 329) d_method_4_328 rfl rfl ?_
    refine bipush (pc' := 331) (v := (9 : Int32)) d_method_4_329 rfl rfl ?_
    refine icmpT (pc' := 349) d_method_4_331 (by decide : ¬ ((9 : Int32) < (9 : Int32))) (by decide) rfl ?_
    refine iloadN (pc' := 350) d_method_4_349 rfl rfl ?_
    refine bipush (pc' := 352) (v := (10 : Int32)) d_method_4_350 rfl rfl ?_
    refine icmpT (pc' := 370) d_method_4_352 (by decide : ¬ ((10 : Int32) < (9 : Int32))) (by decide) rfl ?_
    refine new (i := 52) (i2 := 2) (i3 := 1) (pc' := 373) d_method_4_370 rfl rfl rfl (by decide) (by decide) rfl fun h524 a525 g526 E527 A528 D529 => ?_
    have sz_a525 : h.size ≤ a525 := by rw [g526]; exact K.1
    have ne_a456_a525 : a456 ≠ a525 := Nat.ne_of_lt (by rw [g526]; exact V459.lt)
    replace K := K.ext E527
    replace V459 := V459.ext E527
    have F_value_a525 : Fld Z h524 a525 "java/lang/String" "value" "[B" .null := D529 (Or.inr (hw _ (List.mem_of_getElem? (i := 4) rfl))) (ty := (.array .byte)) (by decide)
    have F_coder_a525 : Fld Z h524 a525 "java/lang/String" "coder" "B" (.int (0 : Int32)) := D529 (Or.inr (hw _ (List.mem_of_getElem? (i := 5) rfl))) (ty := .byte) (by decide)
    refine dup (pc' := 374) d_method_4_373 rfl rfl ?_
    refine aload (pc' := 376) d_method_4_374 rfl rfl rfl ?_
    have Vb : Arv Z h524 a456 kc460 .char (9 : Int32) (List.map Value.int ([c0, c1, c2, c3, c4, c5, c6, c7, c8] : List Int32)) (.int (0 : Int32)) := by
      have q := V459
      rw [own_nar hc0, own_nar hc1, own_nar hc2, own_nar hc3, own_nar hc4, own_nar hc5, own_nar hc6, own_nar hc7, own_nar hc8] at q; exact q
    refine strNewW (i := 2) (Wd := 1) (n := 9) (cs := ([c0, c1, c2, c3, c4, c5, c6, c7, c8] : List Int32)) (pc' := 379) hB (by decide +kernel) rfl (kInit (i := 53) (i2 := 54) (i4 := 55) (a := a525) (argsL := [(.ref a456)]) (S' := [(.ref a525)]) (Wd := 1) d_method_4_376 rfl rfl rfl rfl (by decide) rfl pd_9 rfl rfl (Nat.le_of_ble_eq_true rfl)) A528 F_value_a525 F_coder_a525 Vb rfl rfl (by decide) (by intro c hc; simp only [List.mem_cons, List.not_mem_nil, or_false] at hc; rcases hc with rfl | rfl | rfl | rfl | rfl | rfl | rfl | rfl | rfl <;> assumption) (by simp) (by decide) (by decide) (by decide) (by decide) rfl fun hs Ks Ss => ?_
    replace K := K.trans Ks (allS (Or.inr sz_a525) all0)
    replace A528 := A528.keep Ks
    refine at' (ce' := 6) (sl' := 30) (pc' := 379) (L' := #[.val (.int (9 : Int32)), .val (.ref x), .val (.int p), .val (.long ja), .second, .val (.long jb), .second, .val (.ref a456)]) (S' := [(.ref a525)]) rfl rfl rfl rfl rfl ?_
    exact retA d_method_4_379 rfl rfl rfl (by decide) (by decide) ⟨a525, ([c0, c1, c2, c3, c4, c5, c6, c7, c8] : List Int32), rfl, keepExt K, Ss⟩
  · skip
    refine at' (ce' := 0) (sl' := 0) (pc' := 0) (L' := #[.val (.int (10 : Int32)), .val (.ref x), .val (.int p), .val (.long ja), .second, .val (.long jb), .second, .unset]) (S' := []) rfl rfl rfl rfl rfl ?_
    refine iloadN (pc' := 1) d_method_4_0 rfl rfl ?_
    refine ifT (pc' := 12) d_method_4_1 (by decide : ¬ ((10 : Int32) = (0 : Int32))) (by decide) rfl ?_
    refine iloadN (pc' := 13) d_method_4_12 rfl rfl ?_
    refine iconst (pc' := 14) (v := (1 : Int32)) d_method_4_13 rfl rfl ?_
    refine icmpT (pc' := 25) d_method_4_14 (by decide : ¬ ((10 : Int32) = (1 : Int32))) (by decide) rfl ?_
    refine iloadN (pc' := 26) d_method_4_25 rfl rfl ?_
    refine iconst (pc' := 27) (v := (2 : Int32)) d_method_4_26 rfl rfl ?_
    refine icmpT (pc' := 38) d_method_4_27 (by decide : ¬ ((10 : Int32) = (2 : Int32))) (by decide) rfl ?_
    refine iloadN (pc' := 39) d_method_4_38 rfl rfl ?_
    refine iconst (pc' := 40) (v := (3 : Int32)) d_method_4_39 rfl rfl ?_
    refine icmpT (pc' := 51) d_method_4_40 (by decide : ¬ ((10 : Int32) = (3 : Int32))) (by decide) rfl ?_
    refine iloadN (pc' := 52) d_method_4_51 rfl rfl ?_
    refine iconst (pc' := 53) (v := (4 : Int32)) d_method_4_52 rfl rfl ?_
    refine icmpT (pc' := 64) d_method_4_53 (by decide : ¬ ((10 : Int32) = (4 : Int32))) (by decide) rfl ?_
    refine iloadN (pc' := 65) d_method_4_64 rfl rfl ?_
    refine iconst (pc' := 66) (v := (5 : Int32)) d_method_4_65 rfl rfl ?_
    refine icmpT (pc' := 77) d_method_4_66 (by decide : ¬ ((10 : Int32) = (5 : Int32))) (by decide) rfl ?_
    refine iloadN (pc' := 78) d_method_4_77 rfl rfl ?_
    refine bipush (pc' := 80) (v := (6 : Int32)) d_method_4_78 rfl rfl ?_
    refine icmpT (pc' := 92) d_method_4_80 (by decide : ¬ ((10 : Int32) = (6 : Int32))) (by decide) rfl ?_
    refine iloadN (pc' := 93) d_method_4_92 rfl rfl ?_
    refine bipush (pc' := 95) (v := (7 : Int32)) d_method_4_93 rfl rfl ?_
    refine icmpT (pc' := 107) d_method_4_95 (by decide : ¬ ((10 : Int32) = (7 : Int32))) (by decide) rfl ?_
    refine iloadN (pc' := 108) d_method_4_107 rfl rfl ?_
    refine bipush (pc' := 110) (v := (8 : Int32)) d_method_4_108 rfl rfl ?_
    refine icmpT (pc' := 122) d_method_4_110 (by decide : ¬ ((10 : Int32) = (8 : Int32))) (by decide) rfl ?_
    refine iloadN (pc' := 123) d_method_4_122 rfl rfl ?_
    refine bipush (pc' := 125) (v := (9 : Int32)) d_method_4_123 rfl rfl ?_
    refine icmpT (pc' := 137) d_method_4_125 (by decide : ¬ ((10 : Int32) = (9 : Int32))) (by decide) rfl ?_
    refine iloadN (pc' := 138) d_method_4_137 rfl rfl ?_
    refine bipush (pc' := 140) (v := (10 : Int32)) d_method_4_138 rfl rfl ?_
    refine icmpF (pc' := 143) d_method_4_140 (by decide : (10 : Int32) = (10 : Int32)) rfl ?_
    refine bipush (pc' := 145) (v := (10 : Int32)) d_method_4_143 rfl rfl ?_
    refine newarray (i := 26) (cap := 10) (ty := .char) (pc' := 147) d_method_4_145 rfl rfl (by decide) (by decide) (by decide) (by decide) (by decide) rfl fun h530 a531 kc535 g532 E533 V534 => ?_
    have sz_a531 : h.size ≤ a531 := by rw [g532]; exact K.1
    replace K := K.ext E533
    replace V534 : Arv Z h530 a531 kc535 .char (10 : Int32) [(.int (0 : Int32)), (.int (0 : Int32)), (.int (0 : Int32)), (.int (0 : Int32)), (.int (0 : Int32)), (.int (0 : Int32)), (.int (0 : Int32)), (.int (0 : Int32)), (.int (0 : Int32)), (.int (0 : Int32))] (.int (0 : Int32)) := V534.pad (pad_rep [] (.int (0 : Int32)) 10)
    refine astore (pc' := 149) (L' := #[.val (.int (10 : Int32)), .val (.ref x), .val (.int p), .val (.long ja), .second, .val (.long jb), .second, .val (.ref a531)]) d_method_4_147 rfl rfl rfl ?_
    refine goto (pc' := 158) d_method_4_149 (by decide) rfl ?_
    refine iloadN (pc' := 159) d_method_4_158 rfl rfl ?_
    refine ifF (pc' := 162) d_method_4_159 (by decide : (0 : Int32) < (10 : Int32)) rfl ?_
    refine aload (pc' := 164) d_method_4_162 rfl rfl rfl ?_
    refine iconst (pc' := 165) (v := (0 : Int32)) d_method_4_164 rfl rfl ?_
    refine aloadN (pc' := 166) d_method_4_165 rfl rfl rfl ?_
    refine iconst (pc' := 167) (v := (0 : Int32)) d_method_4_166 rfl rfl ?_
    refine iloadN (pc' := 168) d_method_4_167 rfl rfl ?_
    refine lloadN (pc' := 169) d_method_4_168 rfl rfl ?_
    refine lload (pc' := 171) d_method_4_169 rfl rfl ?_
    refine call (i := 29) (i2 := 24) (Wd := 2) (pc' := 174) (kStatic (i := 27) (i2 := 28) (i3 := 24) (i4 := 29) (argsL := [(.ref x), (.int (0 : Int32)), (.int p), (.long ja), (.long jb)]) (S' := [(.int (0 : Int32)), (.ref a531)]) (Wd := 2) d_method_4_171 rfl rfl rfl rfl (by decide) rfl pd_10 rfl rfl (Nat.le_of_ble_eq_true rfl)) (rm_at l Z a0 hw hEL n0 x cb 0 p ja jb 0 _ (Sx.ext (keepExt K)) hB rfl (by decide) hcb) rfl rfl (by simp) (by decide) (by decide) (by decide) (by decide) rfl fun v_ h536 P537 sz538 => ?_
    obtain ⟨⟨c0, rfl, hc0⟩, e539⟩ := P537
    rw [e539]
    refine at' (ce' := 1) (sl' := 10) (pc' := 174) (L' := #[.val (.int (10 : Int32)), .val (.ref x), .val (.int p), .val (.long ja), .second, .val (.long jb), .second, .val (.ref a531)]) (S' := [(.int c0), (.int (0 : Int32)), (.ref a531)]) rfl rfl rfl rfl rfl ?_
    refine castore (pc' := 175) d_method_4_174 V534 ⟨by decide, by decide⟩ (by simp) (Nat.le_of_ble_eq_true rfl) rfl fun h540 W541 V542 => ?_
    replace K := K.wr W541 (Or.inr sz_a531)
    replace V534 : Arv Z h540 a531 kc535 .char (10 : Int32) [(.int (nar .char c0)), (.int (0 : Int32)), (.int (0 : Int32)), (.int (0 : Int32)), (.int (0 : Int32)), (.int (0 : Int32)), (.int (0 : Int32)), (.int (0 : Int32)), (.int (0 : Int32)), (.int (0 : Int32))] (.int (0 : Int32)) := V542
    refine iloadN (pc' := 176) d_method_4_175 rfl rfl ?_
    refine iconst (pc' := 177) (v := (1 : Int32)) d_method_4_176 rfl rfl ?_
    refine icmpF (pc' := 180) d_method_4_177 (by decide : (1 : Int32) < (10 : Int32)) rfl ?_
    refine aload (pc' := 182) d_method_4_180 rfl rfl rfl ?_
    refine iconst (pc' := 183) (v := (1 : Int32)) d_method_4_182 rfl rfl ?_
    refine aloadN (pc' := 184) d_method_4_183 rfl rfl rfl ?_
    refine iconst (pc' := 185) (v := (1 : Int32)) d_method_4_184 rfl rfl ?_
    refine iloadN (pc' := 186) d_method_4_185 rfl rfl ?_
    refine lloadN (pc' := 187) d_method_4_186 rfl rfl ?_
    refine lload (pc' := 189) d_method_4_187 rfl rfl ?_
    refine call (i := 29) (i2 := 24) (Wd := 2) (pc' := 192) (kStatic (i := 27) (i2 := 28) (i3 := 24) (i4 := 29) (argsL := [(.ref x), (.int (1 : Int32)), (.int p), (.long ja), (.long jb)]) (S' := [(.int (1 : Int32)), (.ref a531)]) (Wd := 2) d_method_4_189 rfl rfl rfl rfl (by decide) rfl pd_10 rfl rfl (Nat.le_of_ble_eq_true rfl)) (rm_at l Z a0 hw hEL n0 x cb 1 p ja jb 1 _ (Sx.ext (keepExt K)) hB rfl (by decide) hcb) rfl rfl (by simp) (by decide) (by decide) (by decide) (by decide) rfl fun v_ h543 P544 sz545 => ?_
    obtain ⟨⟨c1, rfl, hc1⟩, e546⟩ := P544
    rw [e546]
    refine at' (ce' := 1) (sl' := 10) (pc' := 192) (L' := #[.val (.int (10 : Int32)), .val (.ref x), .val (.int p), .val (.long ja), .second, .val (.long jb), .second, .val (.ref a531)]) (S' := [(.int c1), (.int (1 : Int32)), (.ref a531)]) rfl rfl rfl rfl rfl ?_
    refine castore (pc' := 193) d_method_4_192 V534 ⟨by decide, by decide⟩ (by simp) (Nat.le_of_ble_eq_true rfl) rfl fun h547 W548 V549 => ?_
    replace K := K.wr W548 (Or.inr sz_a531)
    replace V534 : Arv Z h547 a531 kc535 .char (10 : Int32) [(.int (nar .char c0)), (.int (nar .char c1)), (.int (0 : Int32)), (.int (0 : Int32)), (.int (0 : Int32)), (.int (0 : Int32)), (.int (0 : Int32)), (.int (0 : Int32)), (.int (0 : Int32)), (.int (0 : Int32))] (.int (0 : Int32)) := V549
    refine iloadN (pc' := 194) d_method_4_193 rfl rfl ?_
    refine iconst (pc' := 195) (v := (2 : Int32)) d_method_4_194 rfl rfl ?_
    refine icmpF (pc' := 198) d_method_4_195 (by decide : (2 : Int32) < (10 : Int32)) rfl ?_
    refine aload (pc' := 200) d_method_4_198 rfl rfl rfl ?_
    refine iconst (pc' := 201) (v := (2 : Int32)) d_method_4_200 rfl rfl ?_
    refine aloadN (pc' := 202) d_method_4_201 rfl rfl rfl ?_
    refine iconst (pc' := 203) (v := (2 : Int32)) d_method_4_202 rfl rfl ?_
    refine iloadN (pc' := 204) d_method_4_203 rfl rfl ?_
    refine lloadN (pc' := 205) d_method_4_204 rfl rfl ?_
    refine lload (pc' := 207) d_method_4_205 rfl rfl ?_
    refine call (i := 29) (i2 := 24) (Wd := 2) (pc' := 210) (kStatic (i := 27) (i2 := 28) (i3 := 24) (i4 := 29) (argsL := [(.ref x), (.int (2 : Int32)), (.int p), (.long ja), (.long jb)]) (S' := [(.int (2 : Int32)), (.ref a531)]) (Wd := 2) d_method_4_207 rfl rfl rfl rfl (by decide) rfl pd_10 rfl rfl (Nat.le_of_ble_eq_true rfl)) (rm_at l Z a0 hw hEL n0 x cb 2 p ja jb 2 _ (Sx.ext (keepExt K)) hB rfl (by decide) hcb) rfl rfl (by simp) (by decide) (by decide) (by decide) (by decide) rfl fun v_ h550 P551 sz552 => ?_
    obtain ⟨⟨c2, rfl, hc2⟩, e553⟩ := P551
    rw [e553]
    refine at' (ce' := 1) (sl' := 10) (pc' := 210) (L' := #[.val (.int (10 : Int32)), .val (.ref x), .val (.int p), .val (.long ja), .second, .val (.long jb), .second, .val (.ref a531)]) (S' := [(.int c2), (.int (2 : Int32)), (.ref a531)]) rfl rfl rfl rfl rfl ?_
    refine castore (pc' := 211) d_method_4_210 V534 ⟨by decide, by decide⟩ (by simp) (Nat.le_of_ble_eq_true rfl) rfl fun h554 W555 V556 => ?_
    replace K := K.wr W555 (Or.inr sz_a531)
    replace V534 : Arv Z h554 a531 kc535 .char (10 : Int32) [(.int (nar .char c0)), (.int (nar .char c1)), (.int (nar .char c2)), (.int (0 : Int32)), (.int (0 : Int32)), (.int (0 : Int32)), (.int (0 : Int32)), (.int (0 : Int32)), (.int (0 : Int32)), (.int (0 : Int32))] (.int (0 : Int32)) := V556
    refine iloadN (pc' := 212) d_method_4_211 rfl rfl ?_
    refine iconst (pc' := 213) (v := (3 : Int32)) d_method_4_212 rfl rfl ?_
    refine icmpF (pc' := 216) d_method_4_213 (by decide : (3 : Int32) < (10 : Int32)) rfl ?_
    refine aload (pc' := 218) d_method_4_216 rfl rfl rfl ?_
    refine iconst (pc' := 219) (v := (3 : Int32)) d_method_4_218 rfl rfl ?_
    refine aloadN (pc' := 220) d_method_4_219 rfl rfl rfl ?_
    refine iconst (pc' := 221) (v := (3 : Int32)) d_method_4_220 rfl rfl ?_
    refine iloadN (pc' := 222) d_method_4_221 rfl rfl ?_
    refine lloadN (pc' := 223) d_method_4_222 rfl rfl ?_
    refine lload (pc' := 225) d_method_4_223 rfl rfl ?_
    refine call (i := 29) (i2 := 24) (Wd := 2) (pc' := 228) (kStatic (i := 27) (i2 := 28) (i3 := 24) (i4 := 29) (argsL := [(.ref x), (.int (3 : Int32)), (.int p), (.long ja), (.long jb)]) (S' := [(.int (3 : Int32)), (.ref a531)]) (Wd := 2) d_method_4_225 rfl rfl rfl rfl (by decide) rfl pd_10 rfl rfl (Nat.le_of_ble_eq_true rfl)) (rm_at l Z a0 hw hEL n0 x cb 3 p ja jb 3 _ (Sx.ext (keepExt K)) hB rfl (by decide) hcb) rfl rfl (by simp) (by decide) (by decide) (by decide) (by decide) rfl fun v_ h557 P558 sz559 => ?_
    obtain ⟨⟨c3, rfl, hc3⟩, e560⟩ := P558
    rw [e560]
    refine at' (ce' := 1) (sl' := 10) (pc' := 228) (L' := #[.val (.int (10 : Int32)), .val (.ref x), .val (.int p), .val (.long ja), .second, .val (.long jb), .second, .val (.ref a531)]) (S' := [(.int c3), (.int (3 : Int32)), (.ref a531)]) rfl rfl rfl rfl rfl ?_
    refine castore (pc' := 229) d_method_4_228 V534 ⟨by decide, by decide⟩ (by simp) (Nat.le_of_ble_eq_true rfl) rfl fun h561 W562 V563 => ?_
    replace K := K.wr W562 (Or.inr sz_a531)
    replace V534 : Arv Z h561 a531 kc535 .char (10 : Int32) [(.int (nar .char c0)), (.int (nar .char c1)), (.int (nar .char c2)), (.int (nar .char c3)), (.int (0 : Int32)), (.int (0 : Int32)), (.int (0 : Int32)), (.int (0 : Int32)), (.int (0 : Int32)), (.int (0 : Int32))] (.int (0 : Int32)) := V563
    refine iloadN (pc' := 230) d_method_4_229 rfl rfl ?_
    refine iconst (pc' := 231) (v := (4 : Int32)) d_method_4_230 rfl rfl ?_
    refine icmpF (pc' := 234) d_method_4_231 (by decide : (4 : Int32) < (10 : Int32)) rfl ?_
    refine aload (pc' := 236) d_method_4_234 rfl rfl rfl ?_
    refine iconst (pc' := 237) (v := (4 : Int32)) d_method_4_236 rfl rfl ?_
    refine aloadN (pc' := 238) d_method_4_237 rfl rfl rfl ?_
    refine iconst (pc' := 239) (v := (4 : Int32)) d_method_4_238 rfl rfl ?_
    refine iloadN (pc' := 240) d_method_4_239 rfl rfl ?_
    refine lloadN (pc' := 241) d_method_4_240 rfl rfl ?_
    refine lload (pc' := 243) d_method_4_241 rfl rfl ?_
    refine call (i := 29) (i2 := 24) (Wd := 2) (pc' := 246) (kStatic (i := 27) (i2 := 28) (i3 := 24) (i4 := 29) (argsL := [(.ref x), (.int (4 : Int32)), (.int p), (.long ja), (.long jb)]) (S' := [(.int (4 : Int32)), (.ref a531)]) (Wd := 2) d_method_4_243 rfl rfl rfl rfl (by decide) rfl pd_10 rfl rfl (Nat.le_of_ble_eq_true rfl)) (rm_at l Z a0 hw hEL n0 x cb 4 p ja jb 4 _ (Sx.ext (keepExt K)) hB rfl (by decide) hcb) rfl rfl (by simp) (by decide) (by decide) (by decide) (by decide) rfl fun v_ h564 P565 sz566 => ?_
    obtain ⟨⟨c4, rfl, hc4⟩, e567⟩ := P565
    rw [e567]
    refine at' (ce' := 1) (sl' := 10) (pc' := 246) (L' := #[.val (.int (10 : Int32)), .val (.ref x), .val (.int p), .val (.long ja), .second, .val (.long jb), .second, .val (.ref a531)]) (S' := [(.int c4), (.int (4 : Int32)), (.ref a531)]) rfl rfl rfl rfl rfl ?_
    refine castore (pc' := 247) d_method_4_246 V534 ⟨by decide, by decide⟩ (by simp) (Nat.le_of_ble_eq_true rfl) rfl fun h568 W569 V570 => ?_
    replace K := K.wr W569 (Or.inr sz_a531)
    replace V534 : Arv Z h568 a531 kc535 .char (10 : Int32) [(.int (nar .char c0)), (.int (nar .char c1)), (.int (nar .char c2)), (.int (nar .char c3)), (.int (nar .char c4)), (.int (0 : Int32)), (.int (0 : Int32)), (.int (0 : Int32)), (.int (0 : Int32)), (.int (0 : Int32))] (.int (0 : Int32)) := V570
    refine iloadN (pc' := 248) d_method_4_247 rfl rfl ?_
    refine iconst (pc' := 249) (v := (5 : Int32)) d_method_4_248 rfl rfl ?_
    refine icmpF (pc' := 252) d_method_4_249 (by decide : (5 : Int32) < (10 : Int32)) rfl ?_
    refine aload (pc' := 254) d_method_4_252 rfl rfl rfl ?_
    refine iconst (pc' := 255) (v := (5 : Int32)) d_method_4_254 rfl rfl ?_
    refine aloadN (pc' := 256) d_method_4_255 rfl rfl rfl ?_
    refine iconst (pc' := 257) (v := (5 : Int32)) d_method_4_256 rfl rfl ?_
    refine iloadN (pc' := 258) d_method_4_257 rfl rfl ?_
    refine lloadN (pc' := 259) d_method_4_258 rfl rfl ?_
    refine lload (pc' := 261) d_method_4_259 rfl rfl ?_
    refine call (i := 29) (i2 := 24) (Wd := 2) (pc' := 264) (kStatic (i := 27) (i2 := 28) (i3 := 24) (i4 := 29) (argsL := [(.ref x), (.int (5 : Int32)), (.int p), (.long ja), (.long jb)]) (S' := [(.int (5 : Int32)), (.ref a531)]) (Wd := 2) d_method_4_261 rfl rfl rfl rfl (by decide) rfl pd_10 rfl rfl (Nat.le_of_ble_eq_true rfl)) (rm_at l Z a0 hw hEL n0 x cb 5 p ja jb 5 _ (Sx.ext (keepExt K)) hB rfl (by decide) hcb) rfl rfl (by simp) (by decide) (by decide) (by decide) (by decide) rfl fun v_ h571 P572 sz573 => ?_
    obtain ⟨⟨c5, rfl, hc5⟩, e574⟩ := P572
    rw [e574]
    refine at' (ce' := 1) (sl' := 10) (pc' := 264) (L' := #[.val (.int (10 : Int32)), .val (.ref x), .val (.int p), .val (.long ja), .second, .val (.long jb), .second, .val (.ref a531)]) (S' := [(.int c5), (.int (5 : Int32)), (.ref a531)]) rfl rfl rfl rfl rfl ?_
    refine castore (pc' := 265) d_method_4_264 V534 ⟨by decide, by decide⟩ (by simp) (Nat.le_of_ble_eq_true rfl) rfl fun h575 W576 V577 => ?_
    replace K := K.wr W576 (Or.inr sz_a531)
    replace V534 : Arv Z h575 a531 kc535 .char (10 : Int32) [(.int (nar .char c0)), (.int (nar .char c1)), (.int (nar .char c2)), (.int (nar .char c3)), (.int (nar .char c4)), (.int (nar .char c5)), (.int (0 : Int32)), (.int (0 : Int32)), (.int (0 : Int32)), (.int (0 : Int32))] (.int (0 : Int32)) := V577
    refine iloadN (pc' := 266) d_method_4_265 rfl rfl ?_
    refine bipush (pc' := 268) (v := (6 : Int32)) d_method_4_266 rfl rfl ?_
    refine icmpF (pc' := 271) d_method_4_268 (by decide : (6 : Int32) < (10 : Int32)) rfl ?_
    refine aload (pc' := 273) d_method_4_271 rfl rfl rfl ?_
    refine bipush (pc' := 275) (v := (6 : Int32)) d_method_4_273 rfl rfl ?_
    refine aloadN (pc' := 276) d_method_4_275 rfl rfl rfl ?_
    refine bipush (pc' := 278) (v := (6 : Int32)) d_method_4_276 rfl rfl ?_
    refine iloadN (pc' := 279) d_method_4_278 rfl rfl ?_
    refine lloadN (pc' := 280) d_method_4_279 rfl rfl ?_
    refine lload (pc' := 282) d_method_4_280 rfl rfl ?_
    refine call (i := 29) (i2 := 24) (Wd := 2) (pc' := 285) (kStatic (i := 27) (i2 := 28) (i3 := 24) (i4 := 29) (argsL := [(.ref x), (.int (6 : Int32)), (.int p), (.long ja), (.long jb)]) (S' := [(.int (6 : Int32)), (.ref a531)]) (Wd := 2) d_method_4_282 rfl rfl rfl rfl (by decide) rfl pd_10 rfl rfl (Nat.le_of_ble_eq_true rfl)) (rm_at l Z a0 hw hEL n0 x cb 6 p ja jb 6 _ (Sx.ext (keepExt K)) hB rfl (by decide) hcb) rfl rfl (by simp) (by decide) (by decide) (by decide) (by decide) rfl fun v_ h578 P579 sz580 => ?_
    obtain ⟨⟨c6, rfl, hc6⟩, e581⟩ := P579
    rw [e581]
    refine at' (ce' := 1) (sl' := 10) (pc' := 285) (L' := #[.val (.int (10 : Int32)), .val (.ref x), .val (.int p), .val (.long ja), .second, .val (.long jb), .second, .val (.ref a531)]) (S' := [(.int c6), (.int (6 : Int32)), (.ref a531)]) rfl rfl rfl rfl rfl ?_
    refine castore (pc' := 286) d_method_4_285 V534 ⟨by decide, by decide⟩ (by simp) (Nat.le_of_ble_eq_true rfl) rfl fun h582 W583 V584 => ?_
    replace K := K.wr W583 (Or.inr sz_a531)
    replace V534 : Arv Z h582 a531 kc535 .char (10 : Int32) [(.int (nar .char c0)), (.int (nar .char c1)), (.int (nar .char c2)), (.int (nar .char c3)), (.int (nar .char c4)), (.int (nar .char c5)), (.int (nar .char c6)), (.int (0 : Int32)), (.int (0 : Int32)), (.int (0 : Int32))] (.int (0 : Int32)) := V584
    refine iloadN (pc' := 287) d_method_4_286 rfl rfl ?_
    refine bipush (pc' := 289) (v := (7 : Int32)) d_method_4_287 rfl rfl ?_
    refine icmpF (pc' := 292) d_method_4_289 (by decide : (7 : Int32) < (10 : Int32)) rfl ?_
    refine aload (pc' := 294) d_method_4_292 rfl rfl rfl ?_
    refine bipush (pc' := 296) (v := (7 : Int32)) d_method_4_294 rfl rfl ?_
    refine aloadN (pc' := 297) d_method_4_296 rfl rfl rfl ?_
    refine bipush (pc' := 299) (v := (7 : Int32)) d_method_4_297 rfl rfl ?_
    refine iloadN (pc' := 300) d_method_4_299 rfl rfl ?_
    refine lloadN (pc' := 301) d_method_4_300 rfl rfl ?_
    refine lload (pc' := 303) d_method_4_301 rfl rfl ?_
    refine call (i := 29) (i2 := 24) (Wd := 2) (pc' := 306) (kStatic (i := 27) (i2 := 28) (i3 := 24) (i4 := 29) (argsL := [(.ref x), (.int (7 : Int32)), (.int p), (.long ja), (.long jb)]) (S' := [(.int (7 : Int32)), (.ref a531)]) (Wd := 2) d_method_4_303 rfl rfl rfl rfl (by decide) rfl pd_10 rfl rfl (Nat.le_of_ble_eq_true rfl)) (rm_at l Z a0 hw hEL n0 x cb 7 p ja jb 7 _ (Sx.ext (keepExt K)) hB rfl (by decide) hcb) rfl rfl (by simp) (by decide) (by decide) (by decide) (by decide) rfl fun v_ h585 P586 sz587 => ?_
    obtain ⟨⟨c7, rfl, hc7⟩, e588⟩ := P586
    rw [e588]
    refine at' (ce' := 1) (sl' := 10) (pc' := 306) (L' := #[.val (.int (10 : Int32)), .val (.ref x), .val (.int p), .val (.long ja), .second, .val (.long jb), .second, .val (.ref a531)]) (S' := [(.int c7), (.int (7 : Int32)), (.ref a531)]) rfl rfl rfl rfl rfl ?_
    refine castore (pc' := 307) d_method_4_306 V534 ⟨by decide, by decide⟩ (by simp) (Nat.le_of_ble_eq_true rfl) rfl fun h589 W590 V591 => ?_
    replace K := K.wr W590 (Or.inr sz_a531)
    replace V534 : Arv Z h589 a531 kc535 .char (10 : Int32) [(.int (nar .char c0)), (.int (nar .char c1)), (.int (nar .char c2)), (.int (nar .char c3)), (.int (nar .char c4)), (.int (nar .char c5)), (.int (nar .char c6)), (.int (nar .char c7)), (.int (0 : Int32)), (.int (0 : Int32))] (.int (0 : Int32)) := V591
    refine iloadN (pc' := 308) d_method_4_307 rfl rfl ?_
    refine bipush (pc' := 310) (v := (8 : Int32)) d_method_4_308 rfl rfl ?_
    refine icmpF (pc' := 313) d_method_4_310 (by decide : (8 : Int32) < (10 : Int32)) rfl ?_
    refine aload (pc' := 315) d_method_4_313 rfl rfl rfl ?_
    refine bipush (pc' := 317) (v := (8 : Int32)) d_method_4_315 rfl rfl ?_
    refine aloadN (pc' := 318) d_method_4_317 rfl rfl rfl ?_
    refine bipush (pc' := 320) (v := (8 : Int32)) d_method_4_318 rfl rfl ?_
    refine iloadN (pc' := 321) d_method_4_320 rfl rfl ?_
    refine lloadN (pc' := 322) d_method_4_321 rfl rfl ?_
    refine lload (pc' := 324) d_method_4_322 rfl rfl ?_
    refine call (i := 29) (i2 := 24) (Wd := 2) (pc' := 327) (kStatic (i := 27) (i2 := 28) (i3 := 24) (i4 := 29) (argsL := [(.ref x), (.int (8 : Int32)), (.int p), (.long ja), (.long jb)]) (S' := [(.int (8 : Int32)), (.ref a531)]) (Wd := 2) d_method_4_324 rfl rfl rfl rfl (by decide) rfl pd_10 rfl rfl (Nat.le_of_ble_eq_true rfl)) (rm_at l Z a0 hw hEL n0 x cb 8 p ja jb 8 _ (Sx.ext (keepExt K)) hB rfl (by decide) hcb) rfl rfl (by simp) (by decide) (by decide) (by decide) (by decide) rfl fun v_ h592 P593 sz594 => ?_
    obtain ⟨⟨c8, rfl, hc8⟩, e595⟩ := P593
    rw [e595]
    refine at' (ce' := 1) (sl' := 10) (pc' := 327) (L' := #[.val (.int (10 : Int32)), .val (.ref x), .val (.int p), .val (.long ja), .second, .val (.long jb), .second, .val (.ref a531)]) (S' := [(.int c8), (.int (8 : Int32)), (.ref a531)]) rfl rfl rfl rfl rfl ?_
    refine castore (pc' := 328) d_method_4_327 V534 ⟨by decide, by decide⟩ (by simp) (Nat.le_of_ble_eq_true rfl) rfl fun h596 W597 V598 => ?_
    replace K := K.wr W597 (Or.inr sz_a531)
    replace V534 : Arv Z h596 a531 kc535 .char (10 : Int32) [(.int (nar .char c0)), (.int (nar .char c1)), (.int (nar .char c2)), (.int (nar .char c3)), (.int (nar .char c4)), (.int (nar .char c5)), (.int (nar .char c6)), (.int (nar .char c7)), (.int (nar .char c8)), (.int (0 : Int32))] (.int (0 : Int32)) := V598
    refine iloadN (pc' := 329) d_method_4_328 rfl rfl ?_
    refine bipush (pc' := 331) (v := (9 : Int32)) d_method_4_329 rfl rfl ?_
    refine icmpF (pc' := 334) d_method_4_331 (by decide : (9 : Int32) < (10 : Int32)) rfl ?_
    refine aload (pc' := 336) d_method_4_334 rfl rfl rfl ?_
    refine bipush (pc' := 338) (v := (9 : Int32)) d_method_4_336 rfl rfl ?_
    refine aloadN (pc' := 339) d_method_4_338 rfl rfl rfl ?_
    refine bipush (pc' := 341) (v := (9 : Int32)) d_method_4_339 rfl rfl ?_
    refine iloadN (pc' := 342) d_method_4_341 rfl rfl ?_
    refine lloadN (pc' := 343) d_method_4_342 rfl rfl ?_
    refine lload (pc' := 345) d_method_4_343 rfl rfl ?_
    refine call (i := 29) (i2 := 24) (Wd := 2) (pc' := 348) (kStatic (i := 27) (i2 := 28) (i3 := 24) (i4 := 29) (argsL := [(.ref x), (.int (9 : Int32)), (.int p), (.long ja), (.long jb)]) (S' := [(.int (9 : Int32)), (.ref a531)]) (Wd := 2) d_method_4_345 rfl rfl rfl rfl (by decide) rfl pd_10 rfl rfl (Nat.le_of_ble_eq_true rfl)) (rm_at l Z a0 hw hEL n0 x cb 9 p ja jb 9 _ (Sx.ext (keepExt K)) hB rfl (by decide) hcb) rfl rfl (by simp) (by decide) (by decide) (by decide) (by decide) rfl fun v_ h599 P600 sz601 => ?_
    obtain ⟨⟨c9, rfl, hc9⟩, e602⟩ := P600
    rw [e602]
    refine at' (ce' := 1) (sl' := 10) (pc' := 348) (L' := #[.val (.int (10 : Int32)), .val (.ref x), .val (.int p), .val (.long ja), .second, .val (.long jb), .second, .val (.ref a531)]) (S' := [(.int c9), (.int (9 : Int32)), (.ref a531)]) rfl rfl rfl rfl rfl ?_
    refine castore (pc' := 349) d_method_4_348 V534 ⟨by decide, by decide⟩ (by simp) (Nat.le_of_ble_eq_true rfl) rfl fun h603 W604 V605 => ?_
    replace K := K.wr W604 (Or.inr sz_a531)
    replace V534 : Arv Z h603 a531 kc535 .char (10 : Int32) [(.int (nar .char c0)), (.int (nar .char c1)), (.int (nar .char c2)), (.int (nar .char c3)), (.int (nar .char c4)), (.int (nar .char c5)), (.int (nar .char c6)), (.int (nar .char c7)), (.int (nar .char c8)), (.int (nar .char c9))] (.int (0 : Int32)) := V605
    refine iloadN (pc' := 350) d_method_4_349 rfl rfl ?_
    refine bipush (pc' := 352) (v := (10 : Int32)) d_method_4_350 rfl rfl ?_
    refine icmpT (pc' := 370) d_method_4_352 (by decide : ¬ ((10 : Int32) < (10 : Int32))) (by decide) rfl ?_
    refine new (i := 52) (i2 := 2) (i3 := 1) (pc' := 373) d_method_4_370 rfl rfl rfl (by decide) (by decide) rfl fun h606 a607 g608 E609 A610 D611 => ?_
    have sz_a607 : h.size ≤ a607 := by rw [g608]; exact K.1
    have ne_a531_a607 : a531 ≠ a607 := Nat.ne_of_lt (by rw [g608]; exact V534.lt)
    replace K := K.ext E609
    replace V534 := V534.ext E609
    have F_value_a607 : Fld Z h606 a607 "java/lang/String" "value" "[B" .null := D611 (Or.inr (hw _ (List.mem_of_getElem? (i := 4) rfl))) (ty := (.array .byte)) (by decide)
    have F_coder_a607 : Fld Z h606 a607 "java/lang/String" "coder" "B" (.int (0 : Int32)) := D611 (Or.inr (hw _ (List.mem_of_getElem? (i := 5) rfl))) (ty := .byte) (by decide)
    refine dup (pc' := 374) d_method_4_373 rfl rfl ?_
    refine aload (pc' := 376) d_method_4_374 rfl rfl rfl ?_
    have Vb : Arv Z h606 a531 kc535 .char (10 : Int32) (List.map Value.int ([c0, c1, c2, c3, c4, c5, c6, c7, c8, c9] : List Int32)) (.int (0 : Int32)) := by
      have q := V534
      rw [own_nar hc0, own_nar hc1, own_nar hc2, own_nar hc3, own_nar hc4, own_nar hc5, own_nar hc6, own_nar hc7, own_nar hc8, own_nar hc9] at q; exact q
    refine strNewW (i := 2) (Wd := 1) (n := 10) (cs := ([c0, c1, c2, c3, c4, c5, c6, c7, c8, c9] : List Int32)) (pc' := 379) hB (by decide +kernel) rfl (kInit (i := 53) (i2 := 54) (i4 := 55) (a := a607) (argsL := [(.ref a531)]) (S' := [(.ref a607)]) (Wd := 1) d_method_4_376 rfl rfl rfl rfl (by decide) rfl pd_9 rfl rfl (Nat.le_of_ble_eq_true rfl)) A610 F_value_a607 F_coder_a607 Vb rfl rfl (by decide) (by intro c hc; simp only [List.mem_cons, List.not_mem_nil, or_false] at hc; rcases hc with rfl | rfl | rfl | rfl | rfl | rfl | rfl | rfl | rfl | rfl <;> assumption) (by simp) (by decide) (by decide) (by decide) (by decide) rfl fun hs Ks Ss => ?_
    replace K := K.trans Ks (allS (Or.inr sz_a607) all0)
    replace A610 := A610.keep Ks
    refine at' (ce' := 6) (sl' := 32) (pc' := 379) (L' := #[.val (.int (10 : Int32)), .val (.ref x), .val (.int p), .val (.long ja), .second, .val (.long jb), .second, .val (.ref a531)]) (S' := [(.ref a607)]) rfl rfl rfl rfl rfl ?_
    exact retA d_method_4_379 rfl rfl rfl (by decide) (by decide) ⟨a607, ([c0, c1, c2, c3, c4, c5, c6, c7, c8, c9] : List Int32), rfl, keepExt K, Ss⟩
  · skip
    refine at' (ce' := 0) (sl' := 0) (pc' := 0) (L' := #[.val (.int (11 : Int32)), .val (.ref x), .val (.int p), .val (.long ja), .second, .val (.long jb), .second, .unset]) (S' := []) rfl rfl rfl rfl rfl ?_
    refine iloadN (pc' := 1) d_method_4_0 rfl rfl ?_
    refine ifT (pc' := 12) d_method_4_1 (by decide : ¬ ((11 : Int32) = (0 : Int32))) (by decide) rfl ?_
    refine iloadN (pc' := 13) d_method_4_12 rfl rfl ?_
    refine iconst (pc' := 14) (v := (1 : Int32)) d_method_4_13 rfl rfl ?_
    refine icmpT (pc' := 25) d_method_4_14 (by decide : ¬ ((11 : Int32) = (1 : Int32))) (by decide) rfl ?_
    refine iloadN (pc' := 26) d_method_4_25 rfl rfl ?_
    refine iconst (pc' := 27) (v := (2 : Int32)) d_method_4_26 rfl rfl ?_
    refine icmpT (pc' := 38) d_method_4_27 (by decide : ¬ ((11 : Int32) = (2 : Int32))) (by decide) rfl ?_
    refine iloadN (pc' := 39) d_method_4_38 rfl rfl ?_
    refine iconst (pc' := 40) (v := (3 : Int32)) d_method_4_39 rfl rfl ?_
    refine icmpT (pc' := 51) d_method_4_40 (by decide : ¬ ((11 : Int32) = (3 : Int32))) (by decide) rfl ?_
    refine iloadN (pc' := 52) d_method_4_51 rfl rfl ?_
    refine iconst (pc' := 53) (v := (4 : Int32)) d_method_4_52 rfl rfl ?_
    refine icmpT (pc' := 64) d_method_4_53 (by decide : ¬ ((11 : Int32) = (4 : Int32))) (by decide) rfl ?_
    refine iloadN (pc' := 65) d_method_4_64 rfl rfl ?_
    refine iconst (pc' := 66) (v := (5 : Int32)) d_method_4_65 rfl rfl ?_
    refine icmpT (pc' := 77) d_method_4_66 (by decide : ¬ ((11 : Int32) = (5 : Int32))) (by decide) rfl ?_
    refine iloadN (pc' := 78) d_method_4_77 rfl rfl ?_
    refine bipush (pc' := 80) (v := (6 : Int32)) d_method_4_78 rfl rfl ?_
    refine icmpT (pc' := 92) d_method_4_80 (by decide : ¬ ((11 : Int32) = (6 : Int32))) (by decide) rfl ?_
    refine iloadN (pc' := 93) d_method_4_92 rfl rfl ?_
    refine bipush (pc' := 95) (v := (7 : Int32)) d_method_4_93 rfl rfl ?_
    refine icmpT (pc' := 107) d_method_4_95 (by decide : ¬ ((11 : Int32) = (7 : Int32))) (by decide) rfl ?_
    refine iloadN (pc' := 108) d_method_4_107 rfl rfl ?_
    refine bipush (pc' := 110) (v := (8 : Int32)) d_method_4_108 rfl rfl ?_
    refine icmpT (pc' := 122) d_method_4_110 (by decide : ¬ ((11 : Int32) = (8 : Int32))) (by decide) rfl ?_
    refine iloadN (pc' := 123) d_method_4_122 rfl rfl ?_
    refine bipush (pc' := 125) (v := (9 : Int32)) d_method_4_123 rfl rfl ?_
    refine icmpT (pc' := 137) d_method_4_125 (by decide : ¬ ((11 : Int32) = (9 : Int32))) (by decide) rfl ?_
    refine iloadN (pc' := 138) d_method_4_137 rfl rfl ?_
    refine bipush (pc' := 140) (v := (10 : Int32)) d_method_4_138 rfl rfl ?_
    refine icmpT (pc' := 152) d_method_4_140 (by decide : ¬ ((11 : Int32) = (10 : Int32))) (by decide) rfl ?_
    refine bipush (pc' := 154) (v := (11 : Int32)) d_method_4_152 rfl rfl ?_
    refine newarray (i := 26) (cap := 11) (ty := .char) (pc' := 156) d_method_4_154 rfl rfl (by decide) (by decide) (by decide) (by decide) (by decide) rfl fun h612 a613 kc617 g614 E615 V616 => ?_
    have sz_a613 : h.size ≤ a613 := by rw [g614]; exact K.1
    replace K := K.ext E615
    replace V616 : Arv Z h612 a613 kc617 .char (11 : Int32) [(.int (0 : Int32)), (.int (0 : Int32)), (.int (0 : Int32)), (.int (0 : Int32)), (.int (0 : Int32)), (.int (0 : Int32)), (.int (0 : Int32)), (.int (0 : Int32)), (.int (0 : Int32)), (.int (0 : Int32)), (.int (0 : Int32))] (.int (0 : Int32)) := V616.pad (pad_rep [] (.int (0 : Int32)) 11)
    refine astore (pc' := 158) (L' := #[.val (.int (11 : Int32)), .val (.ref x), .val (.int p), .val (.long ja), .second, .val (.long jb), .second, .val (.ref a613)]) d_method_4_156 rfl rfl rfl ?_
    refine iloadN (pc' := 159) d_method_4_158 rfl rfl ?_
    refine ifF (pc' := 162) d_method_4_159 (by decide : (0 : Int32) < (11 : Int32)) rfl ?_
    refine aload (pc' := 164) d_method_4_162 rfl rfl rfl ?_
    refine iconst (pc' := 165) (v := (0 : Int32)) d_method_4_164 rfl rfl ?_
    refine aloadN (pc' := 166) d_method_4_165 rfl rfl rfl ?_
    refine iconst (pc' := 167) (v := (0 : Int32)) d_method_4_166 rfl rfl ?_
    refine iloadN (pc' := 168) d_method_4_167 rfl rfl ?_
    refine lloadN (pc' := 169) d_method_4_168 rfl rfl ?_
    refine lload (pc' := 171) d_method_4_169 rfl rfl ?_
    refine call (i := 29) (i2 := 24) (Wd := 2) (pc' := 174) (kStatic (i := 27) (i2 := 28) (i3 := 24) (i4 := 29) (argsL := [(.ref x), (.int (0 : Int32)), (.int p), (.long ja), (.long jb)]) (S' := [(.int (0 : Int32)), (.ref a613)]) (Wd := 2) d_method_4_171 rfl rfl rfl rfl (by decide) rfl pd_10 rfl rfl (Nat.le_of_ble_eq_true rfl)) (rm_at l Z a0 hw hEL n0 x cb 0 p ja jb 0 _ (Sx.ext (keepExt K)) hB rfl (by decide) hcb) rfl rfl (by simp) (by decide) (by decide) (by decide) (by decide) rfl fun v_ h618 P619 sz620 => ?_
    obtain ⟨⟨c0, rfl, hc0⟩, e621⟩ := P619
    rw [e621]
    refine at' (ce' := 1) (sl' := 11) (pc' := 174) (L' := #[.val (.int (11 : Int32)), .val (.ref x), .val (.int p), .val (.long ja), .second, .val (.long jb), .second, .val (.ref a613)]) (S' := [(.int c0), (.int (0 : Int32)), (.ref a613)]) rfl rfl rfl rfl rfl ?_
    refine castore (pc' := 175) d_method_4_174 V616 ⟨by decide, by decide⟩ (by simp) (Nat.le_of_ble_eq_true rfl) rfl fun h622 W623 V624 => ?_
    replace K := K.wr W623 (Or.inr sz_a613)
    replace V616 : Arv Z h622 a613 kc617 .char (11 : Int32) [(.int (nar .char c0)), (.int (0 : Int32)), (.int (0 : Int32)), (.int (0 : Int32)), (.int (0 : Int32)), (.int (0 : Int32)), (.int (0 : Int32)), (.int (0 : Int32)), (.int (0 : Int32)), (.int (0 : Int32)), (.int (0 : Int32))] (.int (0 : Int32)) := V624
    refine iloadN (pc' := 176) d_method_4_175 rfl rfl ?_
    refine iconst (pc' := 177) (v := (1 : Int32)) d_method_4_176 rfl rfl ?_
    refine icmpF (pc' := 180) d_method_4_177 (by decide : (1 : Int32) < (11 : Int32)) rfl ?_
    refine aload (pc' := 182) d_method_4_180 rfl rfl rfl ?_
    refine iconst (pc' := 183) (v := (1 : Int32)) d_method_4_182 rfl rfl ?_
    refine aloadN (pc' := 184) d_method_4_183 rfl rfl rfl ?_
    refine iconst (pc' := 185) (v := (1 : Int32)) d_method_4_184 rfl rfl ?_
    refine iloadN (pc' := 186) d_method_4_185 rfl rfl ?_
    refine lloadN (pc' := 187) d_method_4_186 rfl rfl ?_
    refine lload (pc' := 189) d_method_4_187 rfl rfl ?_
    refine call (i := 29) (i2 := 24) (Wd := 2) (pc' := 192) (kStatic (i := 27) (i2 := 28) (i3 := 24) (i4 := 29) (argsL := [(.ref x), (.int (1 : Int32)), (.int p), (.long ja), (.long jb)]) (S' := [(.int (1 : Int32)), (.ref a613)]) (Wd := 2) d_method_4_189 rfl rfl rfl rfl (by decide) rfl pd_10 rfl rfl (Nat.le_of_ble_eq_true rfl)) (rm_at l Z a0 hw hEL n0 x cb 1 p ja jb 1 _ (Sx.ext (keepExt K)) hB rfl (by decide) hcb) rfl rfl (by simp) (by decide) (by decide) (by decide) (by decide) rfl fun v_ h625 P626 sz627 => ?_
    obtain ⟨⟨c1, rfl, hc1⟩, e628⟩ := P626
    rw [e628]
    refine at' (ce' := 1) (sl' := 11) (pc' := 192) (L' := #[.val (.int (11 : Int32)), .val (.ref x), .val (.int p), .val (.long ja), .second, .val (.long jb), .second, .val (.ref a613)]) (S' := [(.int c1), (.int (1 : Int32)), (.ref a613)]) rfl rfl rfl rfl rfl ?_
    refine castore (pc' := 193) d_method_4_192 V616 ⟨by decide, by decide⟩ (by simp) (Nat.le_of_ble_eq_true rfl) rfl fun h629 W630 V631 => ?_
    replace K := K.wr W630 (Or.inr sz_a613)
    replace V616 : Arv Z h629 a613 kc617 .char (11 : Int32) [(.int (nar .char c0)), (.int (nar .char c1)), (.int (0 : Int32)), (.int (0 : Int32)), (.int (0 : Int32)), (.int (0 : Int32)), (.int (0 : Int32)), (.int (0 : Int32)), (.int (0 : Int32)), (.int (0 : Int32)), (.int (0 : Int32))] (.int (0 : Int32)) := V631
    refine iloadN (pc' := 194) d_method_4_193 rfl rfl ?_
    refine iconst (pc' := 195) (v := (2 : Int32)) d_method_4_194 rfl rfl ?_
    refine icmpF (pc' := 198) d_method_4_195 (by decide : (2 : Int32) < (11 : Int32)) rfl ?_
    refine aload (pc' := 200) d_method_4_198 rfl rfl rfl ?_
    refine iconst (pc' := 201) (v := (2 : Int32)) d_method_4_200 rfl rfl ?_
    refine aloadN (pc' := 202) d_method_4_201 rfl rfl rfl ?_
    refine iconst (pc' := 203) (v := (2 : Int32)) d_method_4_202 rfl rfl ?_
    refine iloadN (pc' := 204) d_method_4_203 rfl rfl ?_
    refine lloadN (pc' := 205) d_method_4_204 rfl rfl ?_
    refine lload (pc' := 207) d_method_4_205 rfl rfl ?_
    refine call (i := 29) (i2 := 24) (Wd := 2) (pc' := 210) (kStatic (i := 27) (i2 := 28) (i3 := 24) (i4 := 29) (argsL := [(.ref x), (.int (2 : Int32)), (.int p), (.long ja), (.long jb)]) (S' := [(.int (2 : Int32)), (.ref a613)]) (Wd := 2) d_method_4_207 rfl rfl rfl rfl (by decide) rfl pd_10 rfl rfl (Nat.le_of_ble_eq_true rfl)) (rm_at l Z a0 hw hEL n0 x cb 2 p ja jb 2 _ (Sx.ext (keepExt K)) hB rfl (by decide) hcb) rfl rfl (by simp) (by decide) (by decide) (by decide) (by decide) rfl fun v_ h632 P633 sz634 => ?_
    obtain ⟨⟨c2, rfl, hc2⟩, e635⟩ := P633
    rw [e635]
    refine at' (ce' := 1) (sl' := 11) (pc' := 210) (L' := #[.val (.int (11 : Int32)), .val (.ref x), .val (.int p), .val (.long ja), .second, .val (.long jb), .second, .val (.ref a613)]) (S' := [(.int c2), (.int (2 : Int32)), (.ref a613)]) rfl rfl rfl rfl rfl ?_
    refine castore (pc' := 211) d_method_4_210 V616 ⟨by decide, by decide⟩ (by simp) (Nat.le_of_ble_eq_true rfl) rfl fun h636 W637 V638 => ?_
    replace K := K.wr W637 (Or.inr sz_a613)
    replace V616 : Arv Z h636 a613 kc617 .char (11 : Int32) [(.int (nar .char c0)), (.int (nar .char c1)), (.int (nar .char c2)), (.int (0 : Int32)), (.int (0 : Int32)), (.int (0 : Int32)), (.int (0 : Int32)), (.int (0 : Int32)), (.int (0 : Int32)), (.int (0 : Int32)), (.int (0 : Int32))] (.int (0 : Int32)) := V638
    refine iloadN (pc' := 212) d_method_4_211 rfl rfl ?_
    refine iconst (pc' := 213) (v := (3 : Int32)) d_method_4_212 rfl rfl ?_
    refine icmpF (pc' := 216) d_method_4_213 (by decide : (3 : Int32) < (11 : Int32)) rfl ?_
    refine aload (pc' := 218) d_method_4_216 rfl rfl rfl ?_
    refine iconst (pc' := 219) (v := (3 : Int32)) d_method_4_218 rfl rfl ?_
    refine aloadN (pc' := 220) d_method_4_219 rfl rfl rfl ?_
    refine iconst (pc' := 221) (v := (3 : Int32)) d_method_4_220 rfl rfl ?_
    refine iloadN (pc' := 222) d_method_4_221 rfl rfl ?_
    refine lloadN (pc' := 223) d_method_4_222 rfl rfl ?_
    refine lload (pc' := 225) d_method_4_223 rfl rfl ?_
    refine call (i := 29) (i2 := 24) (Wd := 2) (pc' := 228) (kStatic (i := 27) (i2 := 28) (i3 := 24) (i4 := 29) (argsL := [(.ref x), (.int (3 : Int32)), (.int p), (.long ja), (.long jb)]) (S' := [(.int (3 : Int32)), (.ref a613)]) (Wd := 2) d_method_4_225 rfl rfl rfl rfl (by decide) rfl pd_10 rfl rfl (Nat.le_of_ble_eq_true rfl)) (rm_at l Z a0 hw hEL n0 x cb 3 p ja jb 3 _ (Sx.ext (keepExt K)) hB rfl (by decide) hcb) rfl rfl (by simp) (by decide) (by decide) (by decide) (by decide) rfl fun v_ h639 P640 sz641 => ?_
    obtain ⟨⟨c3, rfl, hc3⟩, e642⟩ := P640
    rw [e642]
    refine at' (ce' := 1) (sl' := 11) (pc' := 228) (L' := #[.val (.int (11 : Int32)), .val (.ref x), .val (.int p), .val (.long ja), .second, .val (.long jb), .second, .val (.ref a613)]) (S' := [(.int c3), (.int (3 : Int32)), (.ref a613)]) rfl rfl rfl rfl rfl ?_
    refine castore (pc' := 229) d_method_4_228 V616 ⟨by decide, by decide⟩ (by simp) (Nat.le_of_ble_eq_true rfl) rfl fun h643 W644 V645 => ?_
    replace K := K.wr W644 (Or.inr sz_a613)
    replace V616 : Arv Z h643 a613 kc617 .char (11 : Int32) [(.int (nar .char c0)), (.int (nar .char c1)), (.int (nar .char c2)), (.int (nar .char c3)), (.int (0 : Int32)), (.int (0 : Int32)), (.int (0 : Int32)), (.int (0 : Int32)), (.int (0 : Int32)), (.int (0 : Int32)), (.int (0 : Int32))] (.int (0 : Int32)) := V645
    refine iloadN (pc' := 230) d_method_4_229 rfl rfl ?_
    refine iconst (pc' := 231) (v := (4 : Int32)) d_method_4_230 rfl rfl ?_
    refine icmpF (pc' := 234) d_method_4_231 (by decide : (4 : Int32) < (11 : Int32)) rfl ?_
    refine aload (pc' := 236) d_method_4_234 rfl rfl rfl ?_
    refine iconst (pc' := 237) (v := (4 : Int32)) d_method_4_236 rfl rfl ?_
    refine aloadN (pc' := 238) d_method_4_237 rfl rfl rfl ?_
    refine iconst (pc' := 239) (v := (4 : Int32)) d_method_4_238 rfl rfl ?_
    refine iloadN (pc' := 240) d_method_4_239 rfl rfl ?_
    refine lloadN (pc' := 241) d_method_4_240 rfl rfl ?_
    refine lload (pc' := 243) d_method_4_241 rfl rfl ?_
    refine call (i := 29) (i2 := 24) (Wd := 2) (pc' := 246) (kStatic (i := 27) (i2 := 28) (i3 := 24) (i4 := 29) (argsL := [(.ref x), (.int (4 : Int32)), (.int p), (.long ja), (.long jb)]) (S' := [(.int (4 : Int32)), (.ref a613)]) (Wd := 2) d_method_4_243 rfl rfl rfl rfl (by decide) rfl pd_10 rfl rfl (Nat.le_of_ble_eq_true rfl)) (rm_at l Z a0 hw hEL n0 x cb 4 p ja jb 4 _ (Sx.ext (keepExt K)) hB rfl (by decide) hcb) rfl rfl (by simp) (by decide) (by decide) (by decide) (by decide) rfl fun v_ h646 P647 sz648 => ?_
    obtain ⟨⟨c4, rfl, hc4⟩, e649⟩ := P647
    rw [e649]
    refine at' (ce' := 1) (sl' := 11) (pc' := 246) (L' := #[.val (.int (11 : Int32)), .val (.ref x), .val (.int p), .val (.long ja), .second, .val (.long jb), .second, .val (.ref a613)]) (S' := [(.int c4), (.int (4 : Int32)), (.ref a613)]) rfl rfl rfl rfl rfl ?_
    refine castore (pc' := 247) d_method_4_246 V616 ⟨by decide, by decide⟩ (by simp) (Nat.le_of_ble_eq_true rfl) rfl fun h650 W651 V652 => ?_
    replace K := K.wr W651 (Or.inr sz_a613)
    replace V616 : Arv Z h650 a613 kc617 .char (11 : Int32) [(.int (nar .char c0)), (.int (nar .char c1)), (.int (nar .char c2)), (.int (nar .char c3)), (.int (nar .char c4)), (.int (0 : Int32)), (.int (0 : Int32)), (.int (0 : Int32)), (.int (0 : Int32)), (.int (0 : Int32)), (.int (0 : Int32))] (.int (0 : Int32)) := V652
    refine iloadN (pc' := 248) d_method_4_247 rfl rfl ?_
    refine iconst (pc' := 249) (v := (5 : Int32)) d_method_4_248 rfl rfl ?_
    refine icmpF (pc' := 252) d_method_4_249 (by decide : (5 : Int32) < (11 : Int32)) rfl ?_
    refine aload (pc' := 254) d_method_4_252 rfl rfl rfl ?_
    refine iconst (pc' := 255) (v := (5 : Int32)) d_method_4_254 rfl rfl ?_
    refine aloadN (pc' := 256) d_method_4_255 rfl rfl rfl ?_
    refine iconst (pc' := 257) (v := (5 : Int32)) d_method_4_256 rfl rfl ?_
    refine iloadN (pc' := 258) d_method_4_257 rfl rfl ?_
    refine lloadN (pc' := 259) d_method_4_258 rfl rfl ?_
    refine lload (pc' := 261) d_method_4_259 rfl rfl ?_
    refine call (i := 29) (i2 := 24) (Wd := 2) (pc' := 264) (kStatic (i := 27) (i2 := 28) (i3 := 24) (i4 := 29) (argsL := [(.ref x), (.int (5 : Int32)), (.int p), (.long ja), (.long jb)]) (S' := [(.int (5 : Int32)), (.ref a613)]) (Wd := 2) d_method_4_261 rfl rfl rfl rfl (by decide) rfl pd_10 rfl rfl (Nat.le_of_ble_eq_true rfl)) (rm_at l Z a0 hw hEL n0 x cb 5 p ja jb 5 _ (Sx.ext (keepExt K)) hB rfl (by decide) hcb) rfl rfl (by simp) (by decide) (by decide) (by decide) (by decide) rfl fun v_ h653 P654 sz655 => ?_
    obtain ⟨⟨c5, rfl, hc5⟩, e656⟩ := P654
    rw [e656]
    refine at' (ce' := 1) (sl' := 11) (pc' := 264) (L' := #[.val (.int (11 : Int32)), .val (.ref x), .val (.int p), .val (.long ja), .second, .val (.long jb), .second, .val (.ref a613)]) (S' := [(.int c5), (.int (5 : Int32)), (.ref a613)]) rfl rfl rfl rfl rfl ?_
    refine castore (pc' := 265) d_method_4_264 V616 ⟨by decide, by decide⟩ (by simp) (Nat.le_of_ble_eq_true rfl) rfl fun h657 W658 V659 => ?_
    replace K := K.wr W658 (Or.inr sz_a613)
    replace V616 : Arv Z h657 a613 kc617 .char (11 : Int32) [(.int (nar .char c0)), (.int (nar .char c1)), (.int (nar .char c2)), (.int (nar .char c3)), (.int (nar .char c4)), (.int (nar .char c5)), (.int (0 : Int32)), (.int (0 : Int32)), (.int (0 : Int32)), (.int (0 : Int32)), (.int (0 : Int32))] (.int (0 : Int32)) := V659
    refine iloadN (pc' := 266) d_method_4_265 rfl rfl ?_
    refine bipush (pc' := 268) (v := (6 : Int32)) d_method_4_266 rfl rfl ?_
    refine icmpF (pc' := 271) d_method_4_268 (by decide : (6 : Int32) < (11 : Int32)) rfl ?_
    refine aload (pc' := 273) d_method_4_271 rfl rfl rfl ?_
    refine bipush (pc' := 275) (v := (6 : Int32)) d_method_4_273 rfl rfl ?_
    refine aloadN (pc' := 276) d_method_4_275 rfl rfl rfl ?_
    refine bipush (pc' := 278) (v := (6 : Int32)) d_method_4_276 rfl rfl ?_
    refine iloadN (pc' := 279) d_method_4_278 rfl rfl ?_
    refine lloadN (pc' := 280) d_method_4_279 rfl rfl ?_
    refine lload (pc' := 282) d_method_4_280 rfl rfl ?_
    refine call (i := 29) (i2 := 24) (Wd := 2) (pc' := 285) (kStatic (i := 27) (i2 := 28) (i3 := 24) (i4 := 29) (argsL := [(.ref x), (.int (6 : Int32)), (.int p), (.long ja), (.long jb)]) (S' := [(.int (6 : Int32)), (.ref a613)]) (Wd := 2) d_method_4_282 rfl rfl rfl rfl (by decide) rfl pd_10 rfl rfl (Nat.le_of_ble_eq_true rfl)) (rm_at l Z a0 hw hEL n0 x cb 6 p ja jb 6 _ (Sx.ext (keepExt K)) hB rfl (by decide) hcb) rfl rfl (by simp) (by decide) (by decide) (by decide) (by decide) rfl fun v_ h660 P661 sz662 => ?_
    obtain ⟨⟨c6, rfl, hc6⟩, e663⟩ := P661
    rw [e663]
    refine at' (ce' := 1) (sl' := 11) (pc' := 285) (L' := #[.val (.int (11 : Int32)), .val (.ref x), .val (.int p), .val (.long ja), .second, .val (.long jb), .second, .val (.ref a613)]) (S' := [(.int c6), (.int (6 : Int32)), (.ref a613)]) rfl rfl rfl rfl rfl ?_
    refine castore (pc' := 286) d_method_4_285 V616 ⟨by decide, by decide⟩ (by simp) (Nat.le_of_ble_eq_true rfl) rfl fun h664 W665 V666 => ?_
    replace K := K.wr W665 (Or.inr sz_a613)
    replace V616 : Arv Z h664 a613 kc617 .char (11 : Int32) [(.int (nar .char c0)), (.int (nar .char c1)), (.int (nar .char c2)), (.int (nar .char c3)), (.int (nar .char c4)), (.int (nar .char c5)), (.int (nar .char c6)), (.int (0 : Int32)), (.int (0 : Int32)), (.int (0 : Int32)), (.int (0 : Int32))] (.int (0 : Int32)) := V666
    refine iloadN (pc' := 287) d_method_4_286 rfl rfl ?_
    refine bipush (pc' := 289) (v := (7 : Int32)) d_method_4_287 rfl rfl ?_
    refine icmpF (pc' := 292) d_method_4_289 (by decide : (7 : Int32) < (11 : Int32)) rfl ?_
    refine aload (pc' := 294) d_method_4_292 rfl rfl rfl ?_
    refine bipush (pc' := 296) (v := (7 : Int32)) d_method_4_294 rfl rfl ?_
    refine aloadN (pc' := 297) d_method_4_296 rfl rfl rfl ?_
    refine bipush (pc' := 299) (v := (7 : Int32)) d_method_4_297 rfl rfl ?_
    refine iloadN (pc' := 300) d_method_4_299 rfl rfl ?_
    refine lloadN (pc' := 301) d_method_4_300 rfl rfl ?_
    refine lload (pc' := 303) d_method_4_301 rfl rfl ?_
    refine call (i := 29) (i2 := 24) (Wd := 2) (pc' := 306) (kStatic (i := 27) (i2 := 28) (i3 := 24) (i4 := 29) (argsL := [(.ref x), (.int (7 : Int32)), (.int p), (.long ja), (.long jb)]) (S' := [(.int (7 : Int32)), (.ref a613)]) (Wd := 2) d_method_4_303 rfl rfl rfl rfl (by decide) rfl pd_10 rfl rfl (Nat.le_of_ble_eq_true rfl)) (rm_at l Z a0 hw hEL n0 x cb 7 p ja jb 7 _ (Sx.ext (keepExt K)) hB rfl (by decide) hcb) rfl rfl (by simp) (by decide) (by decide) (by decide) (by decide) rfl fun v_ h667 P668 sz669 => ?_
    obtain ⟨⟨c7, rfl, hc7⟩, e670⟩ := P668
    rw [e670]
    refine at' (ce' := 1) (sl' := 11) (pc' := 306) (L' := #[.val (.int (11 : Int32)), .val (.ref x), .val (.int p), .val (.long ja), .second, .val (.long jb), .second, .val (.ref a613)]) (S' := [(.int c7), (.int (7 : Int32)), (.ref a613)]) rfl rfl rfl rfl rfl ?_
    refine castore (pc' := 307) d_method_4_306 V616 ⟨by decide, by decide⟩ (by simp) (Nat.le_of_ble_eq_true rfl) rfl fun h671 W672 V673 => ?_
    replace K := K.wr W672 (Or.inr sz_a613)
    replace V616 : Arv Z h671 a613 kc617 .char (11 : Int32) [(.int (nar .char c0)), (.int (nar .char c1)), (.int (nar .char c2)), (.int (nar .char c3)), (.int (nar .char c4)), (.int (nar .char c5)), (.int (nar .char c6)), (.int (nar .char c7)), (.int (0 : Int32)), (.int (0 : Int32)), (.int (0 : Int32))] (.int (0 : Int32)) := V673
    refine iloadN (pc' := 308) d_method_4_307 rfl rfl ?_
    refine bipush (pc' := 310) (v := (8 : Int32)) d_method_4_308 rfl rfl ?_
    refine icmpF (pc' := 313) d_method_4_310 (by decide : (8 : Int32) < (11 : Int32)) rfl ?_
    refine aload (pc' := 315) d_method_4_313 rfl rfl rfl ?_
    refine bipush (pc' := 317) (v := (8 : Int32)) d_method_4_315 rfl rfl ?_
    refine aloadN (pc' := 318) d_method_4_317 rfl rfl rfl ?_
    refine bipush (pc' := 320) (v := (8 : Int32)) d_method_4_318 rfl rfl ?_
    refine iloadN (pc' := 321) d_method_4_320 rfl rfl ?_
    refine lloadN (pc' := 322) d_method_4_321 rfl rfl ?_
    refine lload (pc' := 324) d_method_4_322 rfl rfl ?_
    refine call (i := 29) (i2 := 24) (Wd := 2) (pc' := 327) (kStatic (i := 27) (i2 := 28) (i3 := 24) (i4 := 29) (argsL := [(.ref x), (.int (8 : Int32)), (.int p), (.long ja), (.long jb)]) (S' := [(.int (8 : Int32)), (.ref a613)]) (Wd := 2) d_method_4_324 rfl rfl rfl rfl (by decide) rfl pd_10 rfl rfl (Nat.le_of_ble_eq_true rfl)) (rm_at l Z a0 hw hEL n0 x cb 8 p ja jb 8 _ (Sx.ext (keepExt K)) hB rfl (by decide) hcb) rfl rfl (by simp) (by decide) (by decide) (by decide) (by decide) rfl fun v_ h674 P675 sz676 => ?_
    obtain ⟨⟨c8, rfl, hc8⟩, e677⟩ := P675
    rw [e677]
    refine at' (ce' := 1) (sl' := 11) (pc' := 327) (L' := #[.val (.int (11 : Int32)), .val (.ref x), .val (.int p), .val (.long ja), .second, .val (.long jb), .second, .val (.ref a613)]) (S' := [(.int c8), (.int (8 : Int32)), (.ref a613)]) rfl rfl rfl rfl rfl ?_
    refine castore (pc' := 328) d_method_4_327 V616 ⟨by decide, by decide⟩ (by simp) (Nat.le_of_ble_eq_true rfl) rfl fun h678 W679 V680 => ?_
    replace K := K.wr W679 (Or.inr sz_a613)
    replace V616 : Arv Z h678 a613 kc617 .char (11 : Int32) [(.int (nar .char c0)), (.int (nar .char c1)), (.int (nar .char c2)), (.int (nar .char c3)), (.int (nar .char c4)), (.int (nar .char c5)), (.int (nar .char c6)), (.int (nar .char c7)), (.int (nar .char c8)), (.int (0 : Int32)), (.int (0 : Int32))] (.int (0 : Int32)) := V680
    refine iloadN (pc' := 329) d_method_4_328 rfl rfl ?_
    refine bipush (pc' := 331) (v := (9 : Int32)) d_method_4_329 rfl rfl ?_
    refine icmpF (pc' := 334) d_method_4_331 (by decide : (9 : Int32) < (11 : Int32)) rfl ?_
    refine aload (pc' := 336) d_method_4_334 rfl rfl rfl ?_
    refine bipush (pc' := 338) (v := (9 : Int32)) d_method_4_336 rfl rfl ?_
    refine aloadN (pc' := 339) d_method_4_338 rfl rfl rfl ?_
    refine bipush (pc' := 341) (v := (9 : Int32)) d_method_4_339 rfl rfl ?_
    refine iloadN (pc' := 342) d_method_4_341 rfl rfl ?_
    refine lloadN (pc' := 343) d_method_4_342 rfl rfl ?_
    refine lload (pc' := 345) d_method_4_343 rfl rfl ?_
    refine call (i := 29) (i2 := 24) (Wd := 2) (pc' := 348) (kStatic (i := 27) (i2 := 28) (i3 := 24) (i4 := 29) (argsL := [(.ref x), (.int (9 : Int32)), (.int p), (.long ja), (.long jb)]) (S' := [(.int (9 : Int32)), (.ref a613)]) (Wd := 2) d_method_4_345 rfl rfl rfl rfl (by decide) rfl pd_10 rfl rfl (Nat.le_of_ble_eq_true rfl)) (rm_at l Z a0 hw hEL n0 x cb 9 p ja jb 9 _ (Sx.ext (keepExt K)) hB rfl (by decide) hcb) rfl rfl (by simp) (by decide) (by decide) (by decide) (by decide) rfl fun v_ h681 P682 sz683 => ?_
    obtain ⟨⟨c9, rfl, hc9⟩, e684⟩ := P682
    rw [e684]
    refine at' (ce' := 1) (sl' := 11) (pc' := 348) (L' := #[.val (.int (11 : Int32)), .val (.ref x), .val (.int p), .val (.long ja), .second, .val (.long jb), .second, .val (.ref a613)]) (S' := [(.int c9), (.int (9 : Int32)), (.ref a613)]) rfl rfl rfl rfl rfl ?_
    refine castore (pc' := 349) d_method_4_348 V616 ⟨by decide, by decide⟩ (by simp) (Nat.le_of_ble_eq_true rfl) rfl fun h685 W686 V687 => ?_
    replace K := K.wr W686 (Or.inr sz_a613)
    replace V616 : Arv Z h685 a613 kc617 .char (11 : Int32) [(.int (nar .char c0)), (.int (nar .char c1)), (.int (nar .char c2)), (.int (nar .char c3)), (.int (nar .char c4)), (.int (nar .char c5)), (.int (nar .char c6)), (.int (nar .char c7)), (.int (nar .char c8)), (.int (nar .char c9)), (.int (0 : Int32))] (.int (0 : Int32)) := V687
    refine iloadN (pc' := 350) d_method_4_349 rfl rfl ?_
    refine bipush (pc' := 352) (v := (10 : Int32)) d_method_4_350 rfl rfl ?_
    refine icmpF (pc' := 355) d_method_4_352 (by decide : (10 : Int32) < (11 : Int32)) rfl ?_
    refine aload (pc' := 357) d_method_4_355 rfl rfl rfl ?_
    refine bipush (pc' := 359) (v := (10 : Int32)) d_method_4_357 rfl rfl ?_
    refine aloadN (pc' := 360) d_method_4_359 rfl rfl rfl ?_
    refine bipush (pc' := 362) (v := (10 : Int32)) d_method_4_360 rfl rfl ?_
    refine iloadN (pc' := 363) d_method_4_362 rfl rfl ?_
    refine lloadN (pc' := 364) d_method_4_363 rfl rfl ?_
    refine lload (pc' := 366) d_method_4_364 rfl rfl ?_
    refine call (i := 29) (i2 := 24) (Wd := 2) (pc' := 369) (kStatic (i := 27) (i2 := 28) (i3 := 24) (i4 := 29) (argsL := [(.ref x), (.int (10 : Int32)), (.int p), (.long ja), (.long jb)]) (S' := [(.int (10 : Int32)), (.ref a613)]) (Wd := 2) d_method_4_366 rfl rfl rfl rfl (by decide) rfl pd_10 rfl rfl (Nat.le_of_ble_eq_true rfl)) (rm_at l Z a0 hw hEL n0 x cb 10 p ja jb 10 _ (Sx.ext (keepExt K)) hB rfl (by decide) hcb) rfl rfl (by simp) (by decide) (by decide) (by decide) (by decide) rfl fun v_ h688 P689 sz690 => ?_
    obtain ⟨⟨c10, rfl, hc10⟩, e691⟩ := P689
    rw [e691]
    refine at' (ce' := 1) (sl' := 11) (pc' := 369) (L' := #[.val (.int (11 : Int32)), .val (.ref x), .val (.int p), .val (.long ja), .second, .val (.long jb), .second, .val (.ref a613)]) (S' := [(.int c10), (.int (10 : Int32)), (.ref a613)]) rfl rfl rfl rfl rfl ?_
    refine castore (pc' := 370) d_method_4_369 V616 ⟨by decide, by decide⟩ (by simp) (Nat.le_of_ble_eq_true rfl) rfl fun h692 W693 V694 => ?_
    replace K := K.wr W693 (Or.inr sz_a613)
    replace V616 : Arv Z h692 a613 kc617 .char (11 : Int32) [(.int (nar .char c0)), (.int (nar .char c1)), (.int (nar .char c2)), (.int (nar .char c3)), (.int (nar .char c4)), (.int (nar .char c5)), (.int (nar .char c6)), (.int (nar .char c7)), (.int (nar .char c8)), (.int (nar .char c9)), (.int (nar .char c10))] (.int (0 : Int32)) := V694
    refine new (i := 52) (i2 := 2) (i3 := 1) (pc' := 373) d_method_4_370 rfl rfl rfl (by decide) (by decide) rfl fun h695 a696 g697 E698 A699 D700 => ?_
    have sz_a696 : h.size ≤ a696 := by rw [g697]; exact K.1
    have ne_a613_a696 : a613 ≠ a696 := Nat.ne_of_lt (by rw [g697]; exact V616.lt)
    replace K := K.ext E698
    replace V616 := V616.ext E698
    have F_value_a696 : Fld Z h695 a696 "java/lang/String" "value" "[B" .null := D700 (Or.inr (hw _ (List.mem_of_getElem? (i := 4) rfl))) (ty := (.array .byte)) (by decide)
    have F_coder_a696 : Fld Z h695 a696 "java/lang/String" "coder" "B" (.int (0 : Int32)) := D700 (Or.inr (hw _ (List.mem_of_getElem? (i := 5) rfl))) (ty := .byte) (by decide)
    refine dup (pc' := 374) d_method_4_373 rfl rfl ?_
    refine aload (pc' := 376) d_method_4_374 rfl rfl rfl ?_
    have Vb : Arv Z h695 a613 kc617 .char (11 : Int32) (List.map Value.int ([c0, c1, c2, c3, c4, c5, c6, c7, c8, c9, c10] : List Int32)) (.int (0 : Int32)) := by
      have q := V616
      rw [own_nar hc0, own_nar hc1, own_nar hc2, own_nar hc3, own_nar hc4, own_nar hc5, own_nar hc6, own_nar hc7, own_nar hc8, own_nar hc9, own_nar hc10] at q; exact q
    refine strNewW (i := 2) (Wd := 1) (n := 11) (cs := ([c0, c1, c2, c3, c4, c5, c6, c7, c8, c9, c10] : List Int32)) (pc' := 379) hB (by decide +kernel) rfl (kInit (i := 53) (i2 := 54) (i4 := 55) (a := a696) (argsL := [(.ref a613)]) (S' := [(.ref a696)]) (Wd := 1) d_method_4_376 rfl rfl rfl rfl (by decide) rfl pd_9 rfl rfl (Nat.le_of_ble_eq_true rfl)) A699 F_value_a696 F_coder_a696 Vb rfl rfl (by decide) (by intro c hc; simp only [List.mem_cons, List.not_mem_nil, or_false] at hc; rcases hc with rfl | rfl | rfl | rfl | rfl | rfl | rfl | rfl | rfl | rfl | rfl <;> assumption) (by simp) (by decide) (by decide) (by decide) (by decide) rfl fun hs Ks Ss => ?_
    replace K := K.trans Ks (allS (Or.inr sz_a696) all0)
    replace A699 := A699.keep Ks
    refine at' (ce' := 6) (sl' := 34) (pc' := 379) (L' := #[.val (.int (11 : Int32)), .val (.ref x), .val (.int p), .val (.long ja), .second, .val (.long jb), .second, .val (.ref a613)]) (S' := [(.ref a696)]) rfl rfl rfl rfl rfl ?_
    exact retA d_method_4_379 rfl rfl rfl (by decide) (by decide) ⟨a696, ([c0, c1, c2, c3, c4, c5, c6, c7, c8, c9, c10] : List Int32), rfl, keepExt K, Ss⟩
set_option maxRecDepth 65536 in
set_option maxHeartbeats 40000000 in
theorem law_met (l : Launch) (Z : State) (a0 : Array Value) (hw : ∀ d ∈ tables_1, d.before a0 Z = true) (hEL : EW Z a0 consts_1) (n0 : Nat) (va : Addr) (kv : ClassId) (c0 c1 c2 c3 m0 m1 m2 m3 oe : Addr) (i0 : Int32) (j1 j2 : Int64) (i3 : Int32) (h : Heap)  (hE : En Z va kv c0 c1 c2 c3 m0 m1 m2 m3) (hO : Oe Z oe) (hB : Sets Z) :
    Met l false Z consts_1 n0 x code maxLocals ret room_1 tables_1 #[(.int i0), (.long j1), (.long j2), (.int i3)] [] h (fun v h' => v = some (.int 1)) := by
  refine Met.of_body (a0 := a0) (L0 := #[.val (.int i0), .val (.long j1), .second, .val (.long j2), .second, .val (.int i3), .unset, .unset, .unset, .unset, .unset, .unset, .unset]) (plainFor_of_name (by first | (simp [plainName, overriddenIn]; done) | decide +kernel)) (fun m => by first | (simp [entryFrame, mkF, argsToLocals, Value.category, maxLocals]; done) | rfl) hw hEL (by decide) ?_
  refine iloadN (pc' := 1) at_0 rfl rfl ?_
  refine bipush (pc' := 3) (v := (7 : Int32)) at_1 rfl rfl ?_
  refine iand (pc' := 4) at_3 rfl ?_
  refine istore (pc' := 6) (L' := #[.val (.int i0), .val (.long j1), .second, .val (.long j2), .second, .val (.int i3), .val (.int (i0 &&& (7 : Int32))), .unset, .unset, .unset, .unset, .unset, .unset]) at_4 rfl rfl ?_
  have JN : ∀ (hh : Heap) (bs : Addr) (nn pp : Int32), Wq l false Z consts_1 a0 n0 x code maxLocals ret room_1 h (fun v h' => v = some (.int 1)) [] hh 10 82 138 #[.val (.int i0), .val (.long j1), .second, .val (.long j2), .second, .val (.int i3), .val (.int (i0 &&& (7 : Int32))), .val (.ref bs), .val (.int nn), .val (.int pp), .val .null, .unset, .unset] [] := by
    intro hh bs nn pp
    refine aconst_null (pc' := 139) at_138 rfl ?_
    refine astore (pc' := 141) (L' := #[.val (.int i0), .val (.long j1), .second, .val (.long j2), .second, .val (.int i3), .val (.int (i0 &&& (7 : Int32))), .val (.ref bs), .val (.int nn), .val (.int pp), .val .null, .val .null, .unset]) at_139 rfl rfl rfl ?_
    refine aload (pc' := 143) at_141 rfl rfl rfl ?_
    refine ifnullT (pc' := 215) at_143 (by decide) rfl ?_
    refine aload (pc' := 217) at_215 rfl rfl rfl ?_
    refine call (i := 87) (i2 := 83) (Wd := 0) (pc' := 220) (kStatic (i := 85) (i2 := 86) (i3 := 83) (i4 := 87) (argsL := [.null]) (S' := []) (Wd := 0) at_217 rfl rfl rfl rfl (by decide) rfl pd_11 rfl rfl (Nat.le_of_ble_eq_true rfl)) (rm_namedN l Z a0 hw hEL n0 va kv c0 c1 c2 c3 m0 m1 m2 m3 oe _ hE hO hB) rfl rfl (by simp) (by decide) (by decide) (by decide) (by decide) rfl fun v_ h701 P702 sz703 => ?_
    obtain ⟨a, rfl, Xa, Ea, Fa⟩ := P702
    refine at' (ce' := 12) (sl' := 87) (pc' := 220) (L' := #[.val (.int i0), .val (.long j1), .second, .val (.long j2), .second, .val (.int i3), .val (.int (i0 &&& (7 : Int32))), .val (.ref bs), .val (.int nn), .val (.int pp), .val .null, .val .null, .unset]) (S' := [(.ref a)]) rfl rfl rfl rfl rfl ?_
    refine aconst_null (pc' := 221) at_220 rfl ?_
    refine call (i := 134) (i2 := 90) (Wd := 0) (pc' := 224) (kVirt (i := 130) (i2 := 131) (i3 := 133) (i4 := 132) (C := "java/util/Optional") (a := a) (argsL := [.null]) (S' := []) (Wd := 0) at_221 rfl rfl rfl rfl Ea (by decide) rfl pd_1 rfl rfl (Nat.le_of_ble_eq_true rfl)) (rm_orN l Z a0 hw hEL n0 a _ Fa) rfl rfl (by simp) (by decide) (by decide) (by decide) (by decide) rfl fun v_ h704 P705 sz706 => ?_
    obtain ⟨rfl, e707⟩ := P705
    rw [e707]
    refine at' (ce' := 12) (sl' := 87) (pc' := 224) (L' := #[.val (.int i0), .val (.long j1), .second, .val (.long j2), .second, .val (.int i3), .val (.int (i0 &&& (7 : Int32))), .val (.ref bs), .val (.int nn), .val (.int pp), .val .null, .val .null, .unset]) (S' := [.null]) rfl rfl rfl rfl rfl ?_
    refine checkcastNull (pc' := 227) at_224 rfl ?_
    refine astore (pc' := 229) (L' := #[.val (.int i0), .val (.long j1), .second, .val (.long j2), .second, .val (.int i3), .val (.int (i0 &&& (7 : Int32))), .val (.ref bs), .val (.int nn), .val (.int pp), .val .null, .val .null, .val .null]) at_227 rfl rfl rfl ?_
    refine aload (pc' := 231) at_229 rfl rfl rfl ?_
    refine aload (pc' := 233) at_231 rfl rfl rfl ?_
    refine acmp (pc' := 236) (v := .null) (w := .null) true at_233 rfl rfl (decide_eq_true rfl) (by decide) rfl ?_
    refine iconst (pc' := 237) (v := (1 : Int32)) at_236 rfl rfl ?_
    refine goto (pc' := 241) at_237 (by decide) rfl ?_
    exact retI at_241 rfl (Or.inr (Or.inl rfl)) rfl (by decide) (by decide) rfl
  have JR : ∀ (hh : Heap) (bs : Addr) (nn pp : Int32) (s : Addr) (cs : List Int32), Str Z hh s cs → Wq l false Z consts_1 a0 n0 x code maxLocals ret room_1 h (fun v h' => v = some (.int 1)) [] hh 10 82 138 #[.val (.int i0), .val (.long j1), .second, .val (.long j2), .second, .val (.int i3), .val (.int (i0 &&& (7 : Int32))), .val (.ref bs), .val (.int nn), .val (.int pp), .val (.ref s), .unset, .unset] [] := by
    intro hh bs nn pp s cs Ss
    refine aconst_null (pc' := 139) at_138 rfl ?_
    refine astore (pc' := 141) (L' := #[.val (.int i0), .val (.long j1), .second, .val (.long j2), .second, .val (.int i3), .val (.int (i0 &&& (7 : Int32))), .val (.ref bs), .val (.int nn), .val (.int pp), .val (.ref s), .val .null, .unset]) at_139 rfl rfl rfl ?_
    refine aload (pc' := 143) at_141 rfl rfl rfl ?_
    refine ifnullF (pc' := 146) at_143 rfl ?_
    refine aload (pc' := 148) at_146 rfl rfl rfl ?_
    refine ldcText (i := 8) (n := 8) (cs := ([114, 119] : List Int32)) (pc' := 150) at_148 rfl (by decide +kernel) (by decide) rfl ⟨by decide +kernel, by decide +kernel⟩ (by decide) (by decide) (by decide +kernel) (by decide) (by decide) (by decide) rfl fun hq0 taq0 TEq0 Stq0 TNq0 => ?_
    replace Ss := Ss.ext TEq0
    refine at' (ce' := 12) (sl' := 94) (pc' := 150) (L' := #[.val (.int i0), .val (.long j1), .second, .val (.long j2), .second, .val (.int i3), .val (.int (i0 &&& (7 : Int32))), .val (.ref bs), .val (.int nn), .val (.int pp), .val (.ref s), .val .null, .unset]) (S' := [(.ref taq0), (.ref s)]) rfl rfl rfl rfl rfl ?_
    refine strEq (i := 2) (Wd := 0) (pc' := 153) hB (by decide +kernel) rfl (kVirt (i := 73) (i2 := 74) (i3 := 76) (i4 := 75) (C := "java/lang/String") (a := s) (argsL := [(.ref taq0)]) (S' := []) (Wd := 0) at_150 rfl rfl rfl rfl Ss.exa (by decide) rfl pd_5 rfl rfl (Nat.le_of_ble_eq_true rfl)) Ss Stq0 (by decide) (by decide) (by decide) (by decide) rfl fun b q0 => ?_
    rcases q0 with ⟨rfl, q0⟩ | ⟨rfl, q0⟩
    · skip
      refine ifF (pc' := 156) at_153 (by decide : ¬ ((1 : Int32) = (0 : Int32))) rfl ?_
      refine old fun O708 _ => ?_
      refine getstatic (i := 82) (v := (.ref c0)) (pc' := 159) at_156 rfl (hE.2.2.2.1.1.ext O708.2) rfl ?_
      refine astore (pc' := 161) (L' := #[.val (.int i0), .val (.long j1), .second, .val (.long j2), .second, .val (.int i3), .val (.int (i0 &&& (7 : Int32))), .val (.ref bs), .val (.int nn), .val (.int pp), .val (.ref s), .val (.ref c0), .unset]) at_159 rfl rfl rfl ?_
      refine goto (pc' := 215) at_161 (by decide) rfl ?_
      refine aload (pc' := 217) at_215 rfl rfl rfl ?_
      refine call (i := 87) (i2 := 83) (Wd := 0) (pc' := 220) (kStatic (i := 85) (i2 := 86) (i3 := 83) (i4 := 87) (argsL := [(.ref s)]) (S' := []) (Wd := 0) at_217 rfl rfl rfl rfl (by decide) rfl pd_11 rfl rfl (Nat.le_of_ble_eq_true rfl)) (rm_named0 l Z a0 hw hEL n0 va kv c0 c1 c2 c3 m0 m1 m2 m3 oe s cs _ Ss hE hO hB q0) rfl rfl (by simp) (by decide) (by decide) (by decide) (by decide) rfl fun v_ h709 P710 sz711 => ?_
      obtain ⟨a, rfl, Xa, Ea, Fa⟩ := P710
      replace Ss := Ss.ext Xa
      replace Stq0 := Stq0.ext Xa
      refine at' (ce' := 14) (sl' := 99) (pc' := 220) (L' := #[.val (.int i0), .val (.long j1), .second, .val (.long j2), .second, .val (.int i3), .val (.int (i0 &&& (7 : Int32))), .val (.ref bs), .val (.int nn), .val (.int pp), .val (.ref s), .val (.ref c0), .unset]) (S' := [(.ref a)]) rfl rfl rfl rfl rfl ?_
      refine aconst_null (pc' := 221) at_220 rfl ?_
      refine call (i := 134) (i2 := 90) (Wd := 0) (pc' := 224) (kVirt (i := 130) (i2 := 131) (i3 := 133) (i4 := 132) (C := "java/util/Optional") (a := a) (argsL := [.null]) (S' := []) (Wd := 0) at_221 rfl rfl rfl rfl Ea (by decide) rfl pd_1 rfl rfl (Nat.le_of_ble_eq_true rfl)) (rm_orR l Z a0 hw hEL n0 a c0 _ Fa) rfl rfl (by simp) (by decide) (by decide) (by decide) (by decide) rfl fun v_ h712 P713 sz714 => ?_
      obtain ⟨rfl, e715⟩ := P713
      rw [e715]
      refine at' (ce' := 14) (sl' := 99) (pc' := 224) (L' := #[.val (.int i0), .val (.long j1), .second, .val (.long j2), .second, .val (.int i3), .val (.int (i0 &&& (7 : Int32))), .val (.ref bs), .val (.int nn), .val (.int pp), .val (.ref s), .val (.ref c0), .unset]) (S' := [(.ref c0)]) rfl rfl rfl rfl rfl ?_
      refine old fun O _ => ?_
      refine checkcast (i := 135) (pc' := 227) at_224 rfl (Ins.self (hE.2.2.2.1.2.1.ext O.2)) rfl ?_
      refine astore (pc' := 229) (L' := #[.val (.int i0), .val (.long j1), .second, .val (.long j2), .second, .val (.int i3), .val (.int (i0 &&& (7 : Int32))), .val (.ref bs), .val (.int nn), .val (.int pp), .val (.ref s), .val (.ref c0), .val (.ref c0)]) at_227 rfl rfl rfl ?_
      refine aload (pc' := 231) at_229 rfl rfl rfl ?_
      refine aload (pc' := 233) at_231 rfl rfl rfl ?_
      refine acmp (pc' := 236) (v := (.ref c0)) (w := (.ref c0)) true at_233 rfl rfl (decide_eq_true rfl) (by decide) rfl ?_
      refine iconst (pc' := 237) (v := (1 : Int32)) at_236 rfl rfl ?_
      refine goto (pc' := 241) at_237 (by decide) rfl ?_
      exact retI at_241 rfl (Or.inr (Or.inl rfl)) rfl (by decide) (by decide) rfl
    · skip
      refine ifT (pc' := 164) at_153 (rfl : (0 : Int32) = (0 : Int32)) (by decide) rfl ?_
      refine aload (pc' := 166) at_164 rfl rfl rfl ?_
      refine ldcText (i := 140) (n := 32) (cs := ([100, 105, 115, 116, 97, 110, 99, 101] : List Int32)) (pc' := 168) at_166 rfl (by decide +kernel) (by decide) rfl ⟨by decide +kernel, by decide +kernel⟩ (by decide) (by decide) (by decide +kernel) (by decide) (by decide) (by decide) rfl fun hq1 taq1 TEq1 Stq1 TNq1 => ?_
      replace Ss := Ss.ext TEq1
      replace Stq0 := Stq0.ext TEq1
      refine at' (ce' := 14) (sl' := 130) (pc' := 168) (L' := #[.val (.int i0), .val (.long j1), .second, .val (.long j2), .second, .val (.int i3), .val (.int (i0 &&& (7 : Int32))), .val (.ref bs), .val (.int nn), .val (.int pp), .val (.ref s), .val .null, .unset]) (S' := [(.ref taq1), (.ref s)]) rfl rfl rfl rfl rfl ?_
      refine strEq (i := 2) (Wd := 0) (pc' := 171) hB (by decide +kernel) rfl (kVirt (i := 73) (i2 := 74) (i3 := 76) (i4 := 75) (C := "java/lang/String") (a := s) (argsL := [(.ref taq1)]) (S' := []) (Wd := 0) at_168 rfl rfl rfl rfl Ss.exa (by decide) rfl pd_5 rfl rfl (Nat.le_of_ble_eq_true rfl)) Ss Stq1 (by decide) (by decide) (by decide) (by decide) rfl fun b q1 => ?_
      rcases q1 with ⟨rfl, q1⟩ | ⟨rfl, q1⟩
      · skip
        refine ifF (pc' := 174) at_171 (by decide : ¬ ((1 : Int32) = (0 : Int32))) rfl ?_
        refine old fun O716 _ => ?_
        refine getstatic (i := 144) (v := (.ref c1)) (pc' := 177) at_174 rfl (hE.2.2.2.2.1.1.ext O716.2) rfl ?_
        refine astore (pc' := 179) (L' := #[.val (.int i0), .val (.long j1), .second, .val (.long j2), .second, .val (.int i3), .val (.int (i0 &&& (7 : Int32))), .val (.ref bs), .val (.int nn), .val (.int pp), .val (.ref s), .val (.ref c1), .unset]) at_177 rfl rfl rfl ?_
        refine goto (pc' := 215) at_179 (by decide) rfl ?_
        refine aload (pc' := 217) at_215 rfl rfl rfl ?_
        refine call (i := 87) (i2 := 83) (Wd := 0) (pc' := 220) (kStatic (i := 85) (i2 := 86) (i3 := 83) (i4 := 87) (argsL := [(.ref s)]) (S' := []) (Wd := 0) at_217 rfl rfl rfl rfl (by decide) rfl pd_11 rfl rfl (Nat.le_of_ble_eq_true rfl)) (rm_named1 l Z a0 hw hEL n0 va kv c0 c1 c2 c3 m0 m1 m2 m3 oe s cs _ Ss hE hO hB q1) rfl rfl (by simp) (by decide) (by decide) (by decide) (by decide) rfl fun v_ h717 P718 sz719 => ?_
        obtain ⟨a, rfl, Xa, Ea, Fa⟩ := P718
        replace Ss := Ss.ext Xa
        replace Stq0 := Stq0.ext Xa
        replace Stq1 := Stq1.ext Xa
        refine at' (ce' := 16) (sl' := 135) (pc' := 220) (L' := #[.val (.int i0), .val (.long j1), .second, .val (.long j2), .second, .val (.int i3), .val (.int (i0 &&& (7 : Int32))), .val (.ref bs), .val (.int nn), .val (.int pp), .val (.ref s), .val (.ref c1), .unset]) (S' := [(.ref a)]) rfl rfl rfl rfl rfl ?_
        refine aconst_null (pc' := 221) at_220 rfl ?_
        refine call (i := 134) (i2 := 90) (Wd := 0) (pc' := 224) (kVirt (i := 130) (i2 := 131) (i3 := 133) (i4 := 132) (C := "java/util/Optional") (a := a) (argsL := [.null]) (S' := []) (Wd := 0) at_221 rfl rfl rfl rfl Ea (by decide) rfl pd_1 rfl rfl (Nat.le_of_ble_eq_true rfl)) (rm_orR l Z a0 hw hEL n0 a c1 _ Fa) rfl rfl (by simp) (by decide) (by decide) (by decide) (by decide) rfl fun v_ h720 P721 sz722 => ?_
        obtain ⟨rfl, e723⟩ := P721
        rw [e723]
        refine at' (ce' := 16) (sl' := 135) (pc' := 224) (L' := #[.val (.int i0), .val (.long j1), .second, .val (.long j2), .second, .val (.int i3), .val (.int (i0 &&& (7 : Int32))), .val (.ref bs), .val (.int nn), .val (.int pp), .val (.ref s), .val (.ref c1), .unset]) (S' := [(.ref c1)]) rfl rfl rfl rfl rfl ?_
        refine old fun O _ => ?_
        refine checkcast (i := 135) (pc' := 227) at_224 rfl (Ins.self (hE.2.2.2.2.1.2.1.ext O.2)) rfl ?_
        refine astore (pc' := 229) (L' := #[.val (.int i0), .val (.long j1), .second, .val (.long j2), .second, .val (.int i3), .val (.int (i0 &&& (7 : Int32))), .val (.ref bs), .val (.int nn), .val (.int pp), .val (.ref s), .val (.ref c1), .val (.ref c1)]) at_227 rfl rfl rfl ?_
        refine aload (pc' := 231) at_229 rfl rfl rfl ?_
        refine aload (pc' := 233) at_231 rfl rfl rfl ?_
        refine acmp (pc' := 236) (v := (.ref c1)) (w := (.ref c1)) true at_233 rfl rfl (decide_eq_true rfl) (by decide) rfl ?_
        refine iconst (pc' := 237) (v := (1 : Int32)) at_236 rfl rfl ?_
        refine goto (pc' := 241) at_237 (by decide) rfl ?_
        exact retI at_241 rfl (Or.inr (Or.inl rfl)) rfl (by decide) (by decide) rfl
      · skip
        refine ifT (pc' := 182) at_171 (rfl : (0 : Int32) = (0 : Int32)) (by decide) rfl ?_
        refine aload (pc' := 184) at_182 rfl rfl rfl ?_
        refine ldcText (i := 137) (n := 24) (cs := ([115, 105, 109, 112, 108, 101] : List Int32)) (pc' := 186) at_184 rfl (by decide +kernel) (by decide) rfl ⟨by decide +kernel, by decide +kernel⟩ (by decide) (by decide) (by decide +kernel) (by decide) (by decide) (by decide) rfl fun hq2 taq2 TEq2 Stq2 TNq2 => ?_
        replace Ss := Ss.ext TEq2
        replace Stq0 := Stq0.ext TEq2
        replace Stq1 := Stq1.ext TEq2
        refine at' (ce' := 16) (sl' := 158) (pc' := 186) (L' := #[.val (.int i0), .val (.long j1), .second, .val (.long j2), .second, .val (.int i3), .val (.int (i0 &&& (7 : Int32))), .val (.ref bs), .val (.int nn), .val (.int pp), .val (.ref s), .val .null, .unset]) (S' := [(.ref taq2), (.ref s)]) rfl rfl rfl rfl rfl ?_
        refine strEq (i := 2) (Wd := 0) (pc' := 189) hB (by decide +kernel) rfl (kVirt (i := 73) (i2 := 74) (i3 := 76) (i4 := 75) (C := "java/lang/String") (a := s) (argsL := [(.ref taq2)]) (S' := []) (Wd := 0) at_186 rfl rfl rfl rfl Ss.exa (by decide) rfl pd_5 rfl rfl (Nat.le_of_ble_eq_true rfl)) Ss Stq2 (by decide) (by decide) (by decide) (by decide) rfl fun b q2 => ?_
        rcases q2 with ⟨rfl, q2⟩ | ⟨rfl, q2⟩
        · skip
          refine ifF (pc' := 192) at_189 (by decide : ¬ ((1 : Int32) = (0 : Int32))) rfl ?_
          refine old fun O724 _ => ?_
          refine getstatic (i := 143) (v := (.ref c2)) (pc' := 195) at_192 rfl (hE.2.2.2.2.2.1.1.ext O724.2) rfl ?_
          refine astore (pc' := 197) (L' := #[.val (.int i0), .val (.long j1), .second, .val (.long j2), .second, .val (.int i3), .val (.int (i0 &&& (7 : Int32))), .val (.ref bs), .val (.int nn), .val (.int pp), .val (.ref s), .val (.ref c2), .unset]) at_195 rfl rfl rfl ?_
          refine goto (pc' := 215) at_197 (by decide) rfl ?_
          refine aload (pc' := 217) at_215 rfl rfl rfl ?_
          refine call (i := 87) (i2 := 83) (Wd := 0) (pc' := 220) (kStatic (i := 85) (i2 := 86) (i3 := 83) (i4 := 87) (argsL := [(.ref s)]) (S' := []) (Wd := 0) at_217 rfl rfl rfl rfl (by decide) rfl pd_11 rfl rfl (Nat.le_of_ble_eq_true rfl)) (rm_named2 l Z a0 hw hEL n0 va kv c0 c1 c2 c3 m0 m1 m2 m3 oe s cs _ Ss hE hO hB q2) rfl rfl (by simp) (by decide) (by decide) (by decide) (by decide) rfl fun v_ h725 P726 sz727 => ?_
          obtain ⟨a, rfl, Xa, Ea, Fa⟩ := P726
          replace Ss := Ss.ext Xa
          replace Stq0 := Stq0.ext Xa
          replace Stq1 := Stq1.ext Xa
          replace Stq2 := Stq2.ext Xa
          refine at' (ce' := 18) (sl' := 163) (pc' := 220) (L' := #[.val (.int i0), .val (.long j1), .second, .val (.long j2), .second, .val (.int i3), .val (.int (i0 &&& (7 : Int32))), .val (.ref bs), .val (.int nn), .val (.int pp), .val (.ref s), .val (.ref c2), .unset]) (S' := [(.ref a)]) rfl rfl rfl rfl rfl ?_
          refine aconst_null (pc' := 221) at_220 rfl ?_
          refine call (i := 134) (i2 := 90) (Wd := 0) (pc' := 224) (kVirt (i := 130) (i2 := 131) (i3 := 133) (i4 := 132) (C := "java/util/Optional") (a := a) (argsL := [.null]) (S' := []) (Wd := 0) at_221 rfl rfl rfl rfl Ea (by decide) rfl pd_1 rfl rfl (Nat.le_of_ble_eq_true rfl)) (rm_orR l Z a0 hw hEL n0 a c2 _ Fa) rfl rfl (by simp) (by decide) (by decide) (by decide) (by decide) rfl fun v_ h728 P729 sz730 => ?_
          obtain ⟨rfl, e731⟩ := P729
          rw [e731]
          refine at' (ce' := 18) (sl' := 163) (pc' := 224) (L' := #[.val (.int i0), .val (.long j1), .second, .val (.long j2), .second, .val (.int i3), .val (.int (i0 &&& (7 : Int32))), .val (.ref bs), .val (.int nn), .val (.int pp), .val (.ref s), .val (.ref c2), .unset]) (S' := [(.ref c2)]) rfl rfl rfl rfl rfl ?_
          refine old fun O _ => ?_
          refine checkcast (i := 135) (pc' := 227) at_224 rfl (Ins.self (hE.2.2.2.2.2.1.2.1.ext O.2)) rfl ?_
          refine astore (pc' := 229) (L' := #[.val (.int i0), .val (.long j1), .second, .val (.long j2), .second, .val (.int i3), .val (.int (i0 &&& (7 : Int32))), .val (.ref bs), .val (.int nn), .val (.int pp), .val (.ref s), .val (.ref c2), .val (.ref c2)]) at_227 rfl rfl rfl ?_
          refine aload (pc' := 231) at_229 rfl rfl rfl ?_
          refine aload (pc' := 233) at_231 rfl rfl rfl ?_
          refine acmp (pc' := 236) (v := (.ref c2)) (w := (.ref c2)) true at_233 rfl rfl (decide_eq_true rfl) (by decide) rfl ?_
          refine iconst (pc' := 237) (v := (1 : Int32)) at_236 rfl rfl ?_
          refine goto (pc' := 241) at_237 (by decide) rfl ?_
          exact retI at_241 rfl (Or.inr (Or.inl rfl)) rfl (by decide) (by decide) rfl
        · skip
          refine ifT (pc' := 200) at_189 (rfl : (0 : Int32) = (0 : Int32)) (by decide) rfl ?_
          refine aload (pc' := 202) at_200 rfl rfl rfl ?_
          refine ldcText (i := 141) (n := 40) (cs := ([116, 101, 114, 109, 119, 101, 105, 103, 104, 116] : List Int32)) (pc' := 204) at_202 rfl (by decide +kernel) (by decide) rfl ⟨by decide +kernel, by decide +kernel⟩ (by decide) (by decide) (by decide +kernel) (by decide) (by decide) (by decide) rfl fun hq3 taq3 TEq3 Stq3 TNq3 => ?_
          replace Ss := Ss.ext TEq3
          replace Stq0 := Stq0.ext TEq3
          replace Stq1 := Stq1.ext TEq3
          replace Stq2 := Stq2.ext TEq3
          refine at' (ce' := 18) (sl' := 202) (pc' := 204) (L' := #[.val (.int i0), .val (.long j1), .second, .val (.long j2), .second, .val (.int i3), .val (.int (i0 &&& (7 : Int32))), .val (.ref bs), .val (.int nn), .val (.int pp), .val (.ref s), .val .null, .unset]) (S' := [(.ref taq3), (.ref s)]) rfl rfl rfl rfl rfl ?_
          refine strEq (i := 2) (Wd := 0) (pc' := 207) hB (by decide +kernel) rfl (kVirt (i := 73) (i2 := 74) (i3 := 76) (i4 := 75) (C := "java/lang/String") (a := s) (argsL := [(.ref taq3)]) (S' := []) (Wd := 0) at_204 rfl rfl rfl rfl Ss.exa (by decide) rfl pd_5 rfl rfl (Nat.le_of_ble_eq_true rfl)) Ss Stq3 (by decide) (by decide) (by decide) (by decide) rfl fun b q3 => ?_
          rcases q3 with ⟨rfl, q3⟩ | ⟨rfl, q3⟩
          · skip
            refine ifF (pc' := 210) at_207 (by decide : ¬ ((1 : Int32) = (0 : Int32))) rfl ?_
            refine old fun O732 _ => ?_
            refine getstatic (i := 145) (v := (.ref c3)) (pc' := 213) at_210 rfl (hE.2.2.2.2.2.2.1.ext O732.2) rfl ?_
            refine astore (pc' := 215) (L' := #[.val (.int i0), .val (.long j1), .second, .val (.long j2), .second, .val (.int i3), .val (.int (i0 &&& (7 : Int32))), .val (.ref bs), .val (.int nn), .val (.int pp), .val (.ref s), .val (.ref c3), .unset]) at_213 rfl rfl rfl ?_
            refine aload (pc' := 217) at_215 rfl rfl rfl ?_
            refine call (i := 87) (i2 := 83) (Wd := 0) (pc' := 220) (kStatic (i := 85) (i2 := 86) (i3 := 83) (i4 := 87) (argsL := [(.ref s)]) (S' := []) (Wd := 0) at_217 rfl rfl rfl rfl (by decide) rfl pd_11 rfl rfl (Nat.le_of_ble_eq_true rfl)) (rm_named3 l Z a0 hw hEL n0 va kv c0 c1 c2 c3 m0 m1 m2 m3 oe s cs _ Ss hE hO hB q3) rfl rfl (by simp) (by decide) (by decide) (by decide) (by decide) rfl fun v_ h733 P734 sz735 => ?_
            obtain ⟨a, rfl, Xa, Ea, Fa⟩ := P734
            replace Ss := Ss.ext Xa
            replace Stq0 := Stq0.ext Xa
            replace Stq1 := Stq1.ext Xa
            replace Stq2 := Stq2.ext Xa
            replace Stq3 := Stq3.ext Xa
            refine at' (ce' := 20) (sl' := 207) (pc' := 220) (L' := #[.val (.int i0), .val (.long j1), .second, .val (.long j2), .second, .val (.int i3), .val (.int (i0 &&& (7 : Int32))), .val (.ref bs), .val (.int nn), .val (.int pp), .val (.ref s), .val (.ref c3), .unset]) (S' := [(.ref a)]) rfl rfl rfl rfl rfl ?_
            refine aconst_null (pc' := 221) at_220 rfl ?_
            refine call (i := 134) (i2 := 90) (Wd := 0) (pc' := 224) (kVirt (i := 130) (i2 := 131) (i3 := 133) (i4 := 132) (C := "java/util/Optional") (a := a) (argsL := [.null]) (S' := []) (Wd := 0) at_221 rfl rfl rfl rfl Ea (by decide) rfl pd_1 rfl rfl (Nat.le_of_ble_eq_true rfl)) (rm_orR l Z a0 hw hEL n0 a c3 _ Fa) rfl rfl (by simp) (by decide) (by decide) (by decide) (by decide) rfl fun v_ h736 P737 sz738 => ?_
            obtain ⟨rfl, e739⟩ := P737
            rw [e739]
            refine at' (ce' := 20) (sl' := 207) (pc' := 224) (L' := #[.val (.int i0), .val (.long j1), .second, .val (.long j2), .second, .val (.int i3), .val (.int (i0 &&& (7 : Int32))), .val (.ref bs), .val (.int nn), .val (.int pp), .val (.ref s), .val (.ref c3), .unset]) (S' := [(.ref c3)]) rfl rfl rfl rfl rfl ?_
            refine old fun O _ => ?_
            refine checkcast (i := 135) (pc' := 227) at_224 rfl (Ins.self (hE.2.2.2.2.2.2.2.1.ext O.2)) rfl ?_
            refine astore (pc' := 229) (L' := #[.val (.int i0), .val (.long j1), .second, .val (.long j2), .second, .val (.int i3), .val (.int (i0 &&& (7 : Int32))), .val (.ref bs), .val (.int nn), .val (.int pp), .val (.ref s), .val (.ref c3), .val (.ref c3)]) at_227 rfl rfl rfl ?_
            refine aload (pc' := 231) at_229 rfl rfl rfl ?_
            refine aload (pc' := 233) at_231 rfl rfl rfl ?_
            refine acmp (pc' := 236) (v := (.ref c3)) (w := (.ref c3)) true at_233 rfl rfl (decide_eq_true rfl) (by decide) rfl ?_
            refine iconst (pc' := 237) (v := (1 : Int32)) at_236 rfl rfl ?_
            refine goto (pc' := 241) at_237 (by decide) rfl ?_
            exact retI at_241 rfl (Or.inr (Or.inl rfl)) rfl (by decide) (by decide) rfl
          · skip
            refine ifT (pc' := 215) at_207 (rfl : (0 : Int32) = (0 : Int32)) (by decide) rfl ?_
            refine aload (pc' := 217) at_215 rfl rfl rfl ?_
            refine call (i := 87) (i2 := 83) (Wd := 0) (pc' := 220) (kStatic (i := 85) (i2 := 86) (i3 := 83) (i4 := 87) (argsL := [(.ref s)]) (S' := []) (Wd := 0) at_217 rfl rfl rfl rfl (by decide) rfl pd_11 rfl rfl (Nat.le_of_ble_eq_true rfl)) (rm_namedX l Z a0 hw hEL n0 va kv c0 c1 c2 c3 m0 m1 m2 m3 oe s cs _ Ss hE hO hB ⟨q0, q1, q2, q3⟩) rfl rfl (by simp) (by decide) (by decide) (by decide) (by decide) rfl fun v_ h740 P741 sz742 => ?_
            obtain ⟨a, rfl, Xa, Ea, Fa⟩ := P741
            replace Ss := Ss.ext Xa
            replace Stq0 := Stq0.ext Xa
            replace Stq1 := Stq1.ext Xa
            replace Stq2 := Stq2.ext Xa
            replace Stq3 := Stq3.ext Xa
            refine at' (ce' := 20) (sl' := 207) (pc' := 220) (L' := #[.val (.int i0), .val (.long j1), .second, .val (.long j2), .second, .val (.int i3), .val (.int (i0 &&& (7 : Int32))), .val (.ref bs), .val (.int nn), .val (.int pp), .val (.ref s), .val .null, .unset]) (S' := [(.ref a)]) rfl rfl rfl rfl rfl ?_
            refine aconst_null (pc' := 221) at_220 rfl ?_
            refine call (i := 134) (i2 := 90) (Wd := 0) (pc' := 224) (kVirt (i := 130) (i2 := 131) (i3 := 133) (i4 := 132) (C := "java/util/Optional") (a := a) (argsL := [.null]) (S' := []) (Wd := 0) at_221 rfl rfl rfl rfl Ea (by decide) rfl pd_1 rfl rfl (Nat.le_of_ble_eq_true rfl)) (rm_orN l Z a0 hw hEL n0 a _ Fa) rfl rfl (by simp) (by decide) (by decide) (by decide) (by decide) rfl fun v_ h743 P744 sz745 => ?_
            obtain ⟨rfl, e746⟩ := P744
            rw [e746]
            refine at' (ce' := 20) (sl' := 207) (pc' := 224) (L' := #[.val (.int i0), .val (.long j1), .second, .val (.long j2), .second, .val (.int i3), .val (.int (i0 &&& (7 : Int32))), .val (.ref bs), .val (.int nn), .val (.int pp), .val (.ref s), .val .null, .unset]) (S' := [.null]) rfl rfl rfl rfl rfl ?_
            refine checkcastNull (pc' := 227) at_224 rfl ?_
            refine astore (pc' := 229) (L' := #[.val (.int i0), .val (.long j1), .second, .val (.long j2), .second, .val (.int i3), .val (.int (i0 &&& (7 : Int32))), .val (.ref bs), .val (.int nn), .val (.int pp), .val (.ref s), .val .null, .val .null]) at_227 rfl rfl rfl ?_
            refine aload (pc' := 231) at_229 rfl rfl rfl ?_
            refine aload (pc' := 233) at_231 rfl rfl rfl ?_
            refine acmp (pc' := 236) (v := .null) (w := .null) true at_233 rfl rfl (decide_eq_true rfl) (by decide) rfl ?_
            refine iconst (pc' := 237) (v := (1 : Int32)) at_236 rfl rfl ?_
            refine goto (pc' := 241) at_237 (by decide) rfl ?_
            exact retI at_241 rfl (Or.inr (Or.inl rfl)) rfl (by decide) (by decide) rfl
  have J58 : ∀ (hh : Heap) (bs : Addr) (cb : List Int32), Str Z hh bs cb → cb.length < 12 → Wq l false Z consts_1 a0 n0 x code maxLocals ret room_1 h (fun v h' => v = some (.int 1)) [] hh 4 48 58 #[.val (.int i0), .val (.long j1), .second, .val (.long j2), .second, .val (.int i3), .val (.int (i0 &&& (7 : Int32))), .val (.ref bs), .unset, .unset, .unset, .unset, .unset] [] := by
    intro hh bs cb Sb hcb
    have J93 : ∀ nn : Int32, t12 nn → Wq l false Z consts_1 a0 n0 x code maxLocals ret room_1 h (fun v h' => v = some (.int 1)) [] hh 4 48 93 #[.val (.int i0), .val (.long j1), .second, .val (.long j2), .second, .val (.int i3), .val (.int (i0 &&& (7 : Int32))), .val (.ref bs), .val (.int nn), .unset, .unset, .unset, .unset] [] := by
      intro nn hnn
      have J115 : ∀ pp : Int32, Wq l false Z consts_1 a0 n0 x code maxLocals ret room_1 h (fun v h' => v = some (.int 1)) [] hh 4 48 115 #[.val (.int i0), .val (.long j1), .second, .val (.long j2), .second, .val (.int i3), .val (.int (i0 &&& (7 : Int32))), .val (.ref bs), .val (.int nn), .val (.int pp), .unset, .unset, .unset] [] := by
        intro pp
        refine aconst_null (pc' := 116) at_115 rfl ?_
        refine astore (pc' := 118) (L' := #[.val (.int i0), .val (.long j1), .second, .val (.long j2), .second, .val (.int i3), .val (.int (i0 &&& (7 : Int32))), .val (.ref bs), .val (.int nn), .val (.int pp), .val .null, .unset, .unset]) at_116 rfl rfl rfl ?_
        refine iload (pc' := 120) at_118 rfl rfl ?_
        refine bipush (pc' := 122) (v := (7 : Int32)) at_120 rfl rfl ?_
        refine icmp (pc' := 138) (pcF := 125) at_122 (by decide) rfl rfl (fun (q7 : (i0 &&& (7 : Int32)) = (7 : Int32)) => ?_) (fun (q7 : ¬ ((i0 &&& (7 : Int32)) = (7 : Int32))) => ?_)
        · skip
          exact fewer (fs' := []) (fun _ q => nomatch q) (more (ce' := 10) (sl' := 82) (by decide) (by decide) (JN _ _ _ _))
        · skip
          refine iload (pc' := 127) at_125 rfl rfl ?_
          refine aload (pc' := 129) at_127 rfl rfl rfl ?_
          refine iload (pc' := 131) at_129 rfl rfl ?_
          refine lloadN (pc' := 132) at_131 rfl rfl ?_
          refine lloadN (pc' := 133) at_132 rfl rfl ?_
          refine call (i := 25) (i2 := 24) (Wd := 0) (pc' := 136) (kStatic (i := 22) (i2 := 23) (i3 := 24) (i4 := 25) (argsL := [(.int nn), (.ref bs), (.int pp), (.long j1), (.long j2)]) (S' := []) (Wd := 0) at_133 rfl rfl rfl rfl (by decide) rfl pd_12 rfl rfl (Nat.le_of_ble_eq_true rfl)) (rm_make l Z a0 hw hEL n0 nn bs cb pp j1 j2 _ Sb hB hnn hcb) rfl rfl (by simp) (by decide) (by decide) (by decide) (by decide) rfl fun v_ h747 P748 sz749 => ?_
          obtain ⟨s, cs, rfl, Xs, Ss⟩ := P748
          replace Sb := Sb.ext Xs
          refine at' (ce' := 10) (sl' := 82) (pc' := 136) (L' := #[.val (.int i0), .val (.long j1), .second, .val (.long j2), .second, .val (.int i3), .val (.int (i0 &&& (7 : Int32))), .val (.ref bs), .val (.int nn), .val (.int pp), .val .null, .unset, .unset]) (S' := [(.ref s)]) rfl rfl rfl rfl rfl ?_
          refine astore (pc' := 138) (L' := #[.val (.int i0), .val (.long j1), .second, .val (.long j2), .second, .val (.int i3), .val (.int (i0 &&& (7 : Int32))), .val (.ref bs), .val (.int nn), .val (.int pp), .val (.ref s), .unset, .unset]) at_136 rfl rfl rfl ?_
          exact fewer (fs' := []) (fun _ q => nomatch q) (more (ce' := 10) (sl' := 82) (by decide) (by decide) (JR _ _ _ _ s cs Ss))
      refine iconst (pc' := 94) (v := (-1 : Int32)) at_93 rfl rfl ?_
      refine istore (pc' := 96) (L' := #[.val (.int i0), .val (.long j1), .second, .val (.long j2), .second, .val (.int i3), .val (.int (i0 &&& (7 : Int32))), .val (.ref bs), .val (.int nn), .val (.int (-1 : Int32)), .unset, .unset, .unset]) at_94 rfl rfl ?_
      refine iload (pc' := 98) at_96 rfl rfl ?_
      refine iconst (pc' := 99) (v := (1 : Int32)) at_98 rfl rfl ?_
      refine iand (pc' := 100) at_99 rfl ?_
      refine ifc (pc' := 115) (pcF := 103) at_100 (by decide) rfl rfl (fun (q1 : (i3 &&& (1 : Int32)) = (0 : Int32)) => ?_) (fun (q1 : ¬ ((i3 &&& (1 : Int32)) = (0 : Int32))) => ?_)
      · skip
        exact J115 _
      · skip
        refine iload (pc' := 105) at_103 rfl rfl ?_
        refine iconst (pc' := 106) (v := (1 : Int32)) at_105 rfl rfl ?_
        refine iushr (pc' := 107) at_106 rfl ?_
        refine ldcInt (i := 138) (v := (2147483647 : Int32)) (pc' := 109) at_107 rfl rfl ?_
        refine iand (pc' := 110) at_109 rfl ?_
        refine bipush (pc' := 112) (v := (12 : Int32)) at_110 rfl rfl ?_
        refine irem (pc' := 113) at_112 (by decide) rfl ?_
        refine istore (pc' := 115) (L' := #[.val (.int i0), .val (.long j1), .second, .val (.long j2), .second, .val (.int i3), .val (.int (i0 &&& (7 : Int32))), .val (.ref bs), .val (.int nn), .val (.int ((((i3.toUInt32 >>> ((1 : Int32) &&& 31).toUInt32).toInt32) &&& (2147483647 : Int32)) % (12 : Int32))), .unset, .unset, .unset]) at_113 rfl rfl ?_
        exact J115 _
    have J82 : Wq l false Z consts_1 a0 n0 x code maxLocals ret room_1 h (fun v h' => v = some (.int 1)) [] hh 4 48 82 #[.val (.int i0), .val (.long j1), .second, .val (.long j2), .second, .val (.int i3), .val (.int (i0 &&& (7 : Int32))), .val (.ref bs), .unset, .unset, .unset, .unset, .unset] [] := by
      refine iloadN (pc' := 83) at_82 rfl rfl ?_
      refine iconst (pc' := 84) (v := (4 : Int32)) at_83 rfl rfl ?_
      refine iushr (pc' := 85) at_84 rfl ?_
      refine ldcInt (i := 138) (v := (2147483647 : Int32)) (pc' := 87) at_85 rfl rfl ?_
      refine iand (pc' := 88) at_87 rfl ?_
      refine bipush (pc' := 90) (v := (12 : Int32)) at_88 rfl rfl ?_
      refine irem (pc' := 91) at_90 (by decide) rfl ?_
      refine istore (pc' := 93) (L' := #[.val (.int i0), .val (.long j1), .second, .val (.long j2), .second, .val (.int i3), .val (.int (i0 &&& (7 : Int32))), .val (.ref bs), .val (.int ((((i0.toUInt32 >>> ((4 : Int32) &&& 31).toUInt32).toInt32) &&& (2147483647 : Int32)) % (12 : Int32))), .unset, .unset, .unset, .unset]) at_91 rfl rfl ?_
      exact J93 _ (own_12 (c_and _ _ (by decide)).1)
    refine iload (pc' := 60) at_58 rfl rfl ?_
    refine iconst (pc' := 61) (v := (4 : Int32)) at_60 rfl rfl ?_
    refine icmp (pc' := 82) (pcF := 64) at_61 (by decide) rfl rfl (fun (q4 : ¬ ((i0 &&& (7 : Int32)) < (4 : Int32))) => ?_) (fun (q4 : (i0 &&& (7 : Int32)) < (4 : Int32)) => ?_)
    · skip
      exact J82
    · skip
      refine iloadN (pc' := 65) at_64 rfl rfl ?_
      refine iconst (pc' := 66) (v := (3 : Int32)) at_65 rfl rfl ?_
      refine iushr (pc' := 67) at_66 rfl ?_
      refine iconst (pc' := 68) (v := (1 : Int32)) at_67 rfl rfl ?_
      refine iand (pc' := 69) at_68 rfl ?_
      refine ifc (pc' := 82) (pcF := 72) at_69 (by decide) rfl rfl (fun (q5 : ¬ ((((i0.toUInt32 >>> ((3 : Int32) &&& 31).toUInt32).toInt32) &&& (1 : Int32)) = (0 : Int32))) => ?_) (fun (q5 : (((i0.toUInt32 >>> ((3 : Int32) &&& 31).toUInt32).toInt32) &&& (1 : Int32)) = (0 : Int32)) => ?_)
      · skip
        exact J82
      · skip
        refine aload (pc' := 74) at_72 rfl rfl rfl ?_
        refine strLen (i := 2) (Wd := 0) (cs := cb) (pc' := 77) hB (by decide +kernel) rfl (kVirt (i := 9) (i2 := 10) (i3 := 12) (i4 := 11) (C := "java/lang/String") (a := bs) (argsL := []) (S' := []) (Wd := 0) at_74 rfl rfl rfl rfl Sb.exa (by decide) rfl pd_7 rfl rfl (Nat.le_of_ble_eq_true rfl)) Sb (by decide) (by decide) (by decide) (by decide) rfl ?_
        refine at' (ce' := 4) (sl' := 48) (pc' := 77) (L' := #[.val (.int i0), .val (.long j1), .second, .val (.long j2), .second, .val (.int i3), .val (.int (i0 &&& (7 : Int32))), .val (.ref bs), .unset, .unset, .unset, .unset, .unset]) (S' := [(.int (Int32.ofNat (cb).length))]) rfl rfl rfl rfl rfl ?_
        refine istore (pc' := 79) (L' := #[.val (.int i0), .val (.long j1), .second, .val (.long j2), .second, .val (.int i3), .val (.int (i0 &&& (7 : Int32))), .val (.ref bs), .val (.int (Int32.ofNat (cb).length)), .unset, .unset, .unset, .unset]) at_77 rfl rfl ?_
        refine goto (pc' := 93) at_79 (by decide) rfl ?_
        exact J93 _ (own_o12 _ hcb)
  refine ldcText (i := 0) (n := 0) (cs := ([] : List Int32)) (pc' := 8) at_6 rfl (by decide +kernel) (by decide) rfl ⟨by simp, by simp [lat]⟩ (by simp) (by decide) (by simp) (by decide) (by decide) (by decide) rfl fun he tae TEe Ste TNe => ?_
  refine at' (ce' := 2) (sl' := 4) (pc' := 8) (L' := #[.val (.int i0), .val (.long j1), .second, .val (.long j2), .second, .val (.int i3), .val (.int (i0 &&& (7 : Int32))), .unset, .unset, .unset, .unset, .unset, .unset]) (S' := [(.ref tae)]) rfl rfl rfl rfl rfl ?_
  refine astore (pc' := 10) (L' := #[.val (.int i0), .val (.long j1), .second, .val (.long j2), .second, .val (.int i3), .val (.int (i0 &&& (7 : Int32))), .val (.ref tae), .unset, .unset, .unset, .unset, .unset]) at_8 rfl rfl rfl ?_
  refine iload (pc' := 12) at_10 rfl rfl ?_
  refine ifc (pc' := 22) (pcF := 15) at_12 (by decide) rfl rfl (fun (k0 : ¬ ((i0 &&& (7 : Int32)) = (0 : Int32))) => ?_) (fun (k0 : (i0 &&& (7 : Int32)) = (0 : Int32)) => ?_)
  · skip
    refine iload (pc' := 24) at_22 rfl rfl ?_
    refine iconst (pc' := 25) (v := (1 : Int32)) at_24 rfl rfl ?_
    refine icmp (pc' := 35) (pcF := 28) at_25 (by decide) rfl rfl (fun (k1 : ¬ ((i0 &&& (7 : Int32)) = (1 : Int32))) => ?_) (fun (k1 : (i0 &&& (7 : Int32)) = (1 : Int32)) => ?_)
    · skip
      refine iload (pc' := 37) at_35 rfl rfl ?_
      refine iconst (pc' := 38) (v := (2 : Int32)) at_37 rfl rfl ?_
      refine icmp (pc' := 48) (pcF := 41) at_38 (by decide) rfl rfl (fun (k2 : ¬ ((i0 &&& (7 : Int32)) = (2 : Int32))) => ?_) (fun (k2 : (i0 &&& (7 : Int32)) = (2 : Int32)) => ?_)
      · skip
        refine iload (pc' := 50) at_48 rfl rfl ?_
        refine iconst (pc' := 51) (v := (3 : Int32)) at_50 rfl rfl ?_
        refine icmp (pc' := 58) (pcF := 54) at_51 (by decide) rfl rfl (fun (k3 : ¬ ((i0 &&& (7 : Int32)) = (3 : Int32))) => ?_) (fun (k3 : (i0 &&& (7 : Int32)) = (3 : Int32)) => ?_)
        · skip
          exact fewer (fs' := []) (fun _ q => nomatch q) (more (ce' := 4) (sl' := 48) (by decide) (by decide) (J58 _ _ _ Ste (by decide)))
        · skip
          refine ldcText (i := 141) (n := 40) (cs := ([116, 101, 114, 109, 119, 101, 105, 103, 104, 116] : List Int32)) (pc' := 56) at_54 rfl (by decide +kernel) (by decide) rfl ⟨by decide +kernel, by decide +kernel⟩ (by decide) (by decide) (by decide +kernel) (by decide) (by decide) (by decide) rfl fun hb3 tab3 TEb3 Stb3 TNb3 => ?_
          replace Ste := Ste.ext TEb3
          refine at' (ce' := 4) (sl' := 48) (pc' := 56) (L' := #[.val (.int i0), .val (.long j1), .second, .val (.long j2), .second, .val (.int i3), .val (.int (i0 &&& (7 : Int32))), .val (.ref tae), .unset, .unset, .unset, .unset, .unset]) (S' := [(.ref tab3)]) rfl rfl rfl rfl rfl ?_
          refine astore (pc' := 58) (L' := #[.val (.int i0), .val (.long j1), .second, .val (.long j2), .second, .val (.int i3), .val (.int (i0 &&& (7 : Int32))), .val (.ref tab3), .unset, .unset, .unset, .unset, .unset]) at_56 rfl rfl rfl ?_
          exact fewer (fs' := []) (fun _ q => nomatch q) (more (ce' := 4) (sl' := 48) (by decide) (by decide) (J58 _ _ _ Stb3 (by decide)))
      · skip
        refine ldcText (i := 137) (n := 24) (cs := ([115, 105, 109, 112, 108, 101] : List Int32)) (pc' := 43) at_41 rfl (by decide +kernel) (by decide) rfl ⟨by decide +kernel, by decide +kernel⟩ (by decide) (by decide) (by decide +kernel) (by decide) (by decide) (by decide) rfl fun hb2 tab2 TEb2 Stb2 TNb2 => ?_
        replace Ste := Ste.ext TEb2
        refine at' (ce' := 4) (sl' := 32) (pc' := 43) (L' := #[.val (.int i0), .val (.long j1), .second, .val (.long j2), .second, .val (.int i3), .val (.int (i0 &&& (7 : Int32))), .val (.ref tae), .unset, .unset, .unset, .unset, .unset]) (S' := [(.ref tab2)]) rfl rfl rfl rfl rfl ?_
        refine astore (pc' := 45) (L' := #[.val (.int i0), .val (.long j1), .second, .val (.long j2), .second, .val (.int i3), .val (.int (i0 &&& (7 : Int32))), .val (.ref tab2), .unset, .unset, .unset, .unset, .unset]) at_43 rfl rfl rfl ?_
        refine goto (pc' := 58) at_45 (by decide) rfl ?_
        exact fewer (fs' := []) (fun _ q => nomatch q) (more (ce' := 4) (sl' := 48) (by decide) (by decide) (J58 _ _ _ Stb2 (by decide)))
    · skip
      refine ldcText (i := 140) (n := 32) (cs := ([100, 105, 115, 116, 97, 110, 99, 101] : List Int32)) (pc' := 30) at_28 rfl (by decide +kernel) (by decide) rfl ⟨by decide +kernel, by decide +kernel⟩ (by decide) (by decide) (by decide +kernel) (by decide) (by decide) (by decide) rfl fun hb1 tab1 TEb1 Stb1 TNb1 => ?_
      replace Ste := Ste.ext TEb1
      refine at' (ce' := 4) (sl' := 40) (pc' := 30) (L' := #[.val (.int i0), .val (.long j1), .second, .val (.long j2), .second, .val (.int i3), .val (.int (i0 &&& (7 : Int32))), .val (.ref tae), .unset, .unset, .unset, .unset, .unset]) (S' := [(.ref tab1)]) rfl rfl rfl rfl rfl ?_
      refine astore (pc' := 32) (L' := #[.val (.int i0), .val (.long j1), .second, .val (.long j2), .second, .val (.int i3), .val (.int (i0 &&& (7 : Int32))), .val (.ref tab1), .unset, .unset, .unset, .unset, .unset]) at_30 rfl rfl rfl ?_
      refine goto (pc' := 58) at_32 (by decide) rfl ?_
      exact fewer (fs' := []) (fun _ q => nomatch q) (more (ce' := 4) (sl' := 48) (by decide) (by decide) (J58 _ _ _ Stb1 (by decide)))
  · skip
    refine ldcText (i := 8) (n := 8) (cs := ([114, 119] : List Int32)) (pc' := 17) at_15 rfl (by decide +kernel) (by decide) rfl ⟨by decide +kernel, by decide +kernel⟩ (by decide) (by decide) (by decide +kernel) (by decide) (by decide) (by decide) rfl fun hb0 tab0 TEb0 Stb0 TNb0 => ?_
    replace Ste := Ste.ext TEb0
    refine at' (ce' := 4) (sl' := 16) (pc' := 17) (L' := #[.val (.int i0), .val (.long j1), .second, .val (.long j2), .second, .val (.int i3), .val (.int (i0 &&& (7 : Int32))), .val (.ref tae), .unset, .unset, .unset, .unset, .unset]) (S' := [(.ref tab0)]) rfl rfl rfl rfl rfl ?_
    refine astore (pc' := 19) (L' := #[.val (.int i0), .val (.long j1), .second, .val (.long j2), .second, .val (.int i3), .val (.int (i0 &&& (7 : Int32))), .val (.ref tab0), .unset, .unset, .unset, .unset, .unset]) at_17 rfl rfl rfl ?_
    refine goto (pc' := 58) at_19 (by decide) rfl ?_
    exact fewer (fs' := []) (fun _ q => nomatch q) (more (ce' := 4) (sl' := 48) (by decide) (by decide) (J58 _ _ _ Stb0 (by decide)))
set_option maxRecDepth 65536 in
set_option maxHeartbeats 40000000 in
theorem comes_1 {Post : Tables → Env → Array Value → State → Outcome → State → Prop} (hpost : ∀ tb e args s v u, (limb_1_1.after args s (.returned v) u = true ∧ limb_1_2.after args s (.returned v) u = true ∧ True) → ReturnedEndW s (.returned v) u (Jvm.fieldLocs frame_1_writes args s ++ Jvm.arrayLocs frame_1_arrays args s ++ Jvm.staticLocs frame_1_statics s) 32 6336 → Post tb e args s (.returned v) u) :
    ArmFor flags0 classFile x code maxLocals ret World_1 tables_1 room_1 Calls_1 rest_1 Pre_1 Post := by
  intro l hfl _ _ p e ha hc hk s m args below hf hA hF happ hP
  obtain ⟨hcalls, hrest, hpre⟩ := hP
  obtain ⟨-, -, -, hnamed, -, -, -, hat⟩ := (Spec.applies_iff hf).mp happ
  obtain ⟨hg, hn⟩ := and_e (Cond.before_iff.mp (show (Jvm.Cond.and given_1 narrow_1).before args s = true from hpre))
  obtain ⟨hcount, hg0⟩ := and_e hg
  obtain ⟨ga0, hg1⟩ := and_e hg0
  obtain ⟨ga1, hg2⟩ := and_e hg1
  obtain ⟨ga2, hg3⟩ := and_e hg2
  have ga3 := hg3
  obtain ⟨w0, w1, w2, w3, rfl⟩ : ∃ w0 w1 w2 w3 : Value, args = #[w0, w1, w2, w3] := by
    have hs : args.size = 4 := by simpa [Cond.value, given_1] using hcount
    obtain ⟨L⟩ := args
    match L, hs with
    | [w0, w1, w2, w3], _ => exact ⟨w0, w1, w2, w3, rfl⟩
  have hw := fun d (hd : d ∈ tables_1) => atoms_spec (ws := Jvm.Cond.code x code maxLocals ret :: tables_1) hat d (List.mem_cons_of_mem _ hd)
  have hfit : Fit s := fun {y c} hc i hi => by
    obtain ⟨ha, rfl⟩ := Array.getElem?_eq_some_iff.mp hc
    have q := List.all_eq_true.mp ((Array.all_eq_true_iff_forall_mem.mp hF) _ (Array.getElem_mem ha)) i (List.mem_range.mpr hi)
    simpa [Array.getElem?_eq_getElem hi] using q
  obtain ⟨hsets, hown0⟩ := atoms_of _ (rest_1_c_eq ▸ (show rest_1_c.before _ s = true from hrest))
  obtain ⟨i0, ei0⟩ := is_v ga0
  obtain rfl : w0 = (.int i0) := Option.some.inj ei0
  obtain ⟨i1, ei1⟩ := isL_v ga1
  obtain rfl : w1 = (.long i1) := Option.some.inj ei1
  obtain ⟨i2, ei2⟩ := isL_v ga2
  obtain rfl : w2 = (.long i2) := Option.some.inj ei2
  obtain ⟨i3, ei3⟩ := is_v ga3
  obtain rfl : w3 = (.int i3) := Option.some.inj ei3
  obtain ⟨zc, ezc⟩ := is_v (Cond.before_iff.mp (hsets _ (List.mem_of_getElem? (i := 1) rfl)))
  have nzc := not_v (Cond.before_iff.mp (hsets _ (List.mem_of_getElem? (i := 2) rfl)))
  have Szc : Sta s s.heap "java/lang/String" "COMPACT_STRINGS" "Z" (.int zc) := Sta.start ezc (Or.inl (hsets _ (List.mem_of_getElem? (i := 0) rfl)))
  obtain ⟨fm, efm, rfm⟩ := isR_v (Cond.before_iff.mp (hsets _ (List.mem_of_getElem? (i := 8) rfl)))
  have Sfm : Sta s s.heap "jdk/internal/util/Preconditions" "SIOOBE_FORMATTER" "Ljava/util/function/BiFunction;" fm := Sta.start efm (Or.inl (hsets _ (List.mem_of_getElem? (i := 7) rfl)))
  have hzc : ¬ (zc = (0 : Int32)) := gotF (Cond.eq_ints ezc (Term.int_eval (0))) nzc
  have hB : Sets s := ⟨zc, fm, Szc, hzc, Sfm, rfm⟩
  obtain ⟨oe, eoe⟩ := exa_v (Cond.before_iff.mp (hsets _ (List.mem_of_getElem? (i := 11) rfl)))
  have hOe : Oe s oe := ⟨Sta.start eoe (Or.inl (hsets _ (List.mem_of_getElem? (i := 10) rfl))), Exa.start eoe (Cond.before_iff.mp (hsets _ (List.mem_of_getElem? (i := 11) rfl))), fld_start eoe (eqNull (Cond.before_iff.mp (hsets _ (List.mem_of_getElem? (i := 12) rfl))))⟩
  obtain ⟨k0, hn1⟩ := and_e hn
  obtain ⟨k1, hn2⟩ := and_e hn1
  obtain ⟨k2, hn3⟩ := and_e hn2
  obtain ⟨k3, hn4⟩ := and_e hn3
  obtain ⟨k4, hn5⟩ := and_e hn4
  obtain ⟨k5, hn6⟩ := and_e hn5
  obtain ⟨k6, hn7⟩ := and_e hn6
  obtain ⟨k7, hn8⟩ := and_e hn7
  obtain ⟨k8, hn9⟩ := and_e hn8
  obtain ⟨k9, hn10⟩ := and_e hn9
  obtain ⟨k10, hn11⟩ := and_e hn10
  obtain ⟨k11, hn12⟩ := and_e hn11
  obtain ⟨k12, hn13⟩ := and_e hn12
  obtain ⟨k13, hn14⟩ := and_e hn13
  obtain ⟨k14, hn15⟩ := and_e hn14
  obtain ⟨k15, hn16⟩ := and_e hn15
  obtain ⟨k16, hn17⟩ := and_e hn16
  obtain ⟨k17, hn18⟩ := and_e hn17
  obtain ⟨k18, hn19⟩ := and_e hn18
  obtain ⟨k19, hn20⟩ := and_e hn19
  obtain ⟨k20, hn21⟩ := and_e hn20
  obtain ⟨k21, hn22⟩ := and_e hn21
  obtain ⟨k22, hn23⟩ := and_e hn22
  obtain ⟨k23, hn24⟩ := and_e hn23
  obtain ⟨k24, hn25⟩ := and_e hn24
  obtain ⟨k25, hn26⟩ := and_e hn25
  obtain ⟨k26, hn27⟩ := and_e hn26
  obtain ⟨k27, hn28⟩ := and_e hn27
  obtain ⟨k28, hn29⟩ := and_e hn28
  obtain ⟨k29, hn30⟩ := and_e hn29
  obtain ⟨k30, hn31⟩ := and_e hn30
  obtain ⟨k31, hn32⟩ := and_e hn31
  obtain ⟨k32, hn33⟩ := and_e hn32
  obtain ⟨k33, hn34⟩ := and_e hn33
  obtain ⟨k34, hn35⟩ := and_e hn34
  obtain ⟨k35, hn36⟩ := and_e hn35
  obtain ⟨k36, hn37⟩ := and_e hn36
  obtain ⟨k37, hn38⟩ := and_e hn37
  obtain ⟨k38, hn39⟩ := and_e hn38
  obtain ⟨k39, hn40⟩ := and_e hn39
  obtain ⟨k40, hn41⟩ := and_e hn40
  obtain ⟨k41, hn42⟩ := and_e hn41
  obtain ⟨k42, hn43⟩ := and_e hn42
  obtain ⟨k43, hn44⟩ := and_e hn43
  obtain ⟨k44, hn45⟩ := and_e hn44
  obtain ⟨k45, hn46⟩ := and_e hn45
  obtain ⟨k46, hn47⟩ := and_e hn46
  obtain ⟨k47, hn48⟩ := and_e hn47
  obtain ⟨k48, hn49⟩ := and_e hn48
  obtain ⟨k49, hn50⟩ := and_e hn49
  obtain ⟨k50, hn51⟩ := and_e hn50
  obtain ⟨k51, hn52⟩ := and_e hn51
  have k52 := hn52
  obtain ⟨c0, ec0⟩ := exa_v k0
  have S0 := Sta.start ec0 (Or.inr ⟨hw _ (List.mem_of_getElem? (i := 83) rfl), hw _ (List.mem_of_getElem? (i := 84) rfl)⟩)
  have X0 := Exa.start ec0 k0
  obtain ⟨m0, em0⟩ := exa_v k11
  have T0 : Str s s.heap m0 ([114, 119] : List Int32) := str_of hfit em0 k11 k12 k13 k14 rfl (by decide) (by decide) (fun i hi => by
    match i, hi with
    | 0, _ => exact eqI k15
    | 1, _ => exact eqI k16)
  obtain ⟨c1, ec1⟩ := exa_v k5
  have S1 := Sta.start ec1 (Or.inr ⟨hw _ (List.mem_of_getElem? (i := 83) rfl), hw _ (List.mem_of_getElem? (i := 105) rfl)⟩)
  have X1 := Exa.start ec1 k5
  obtain ⟨m1, em1⟩ := exa_v k17
  have T1 : Str s s.heap m1 ([100, 105, 115, 116, 97, 110, 99, 101] : List Int32) := str_of hfit em1 k17 k18 k19 k20 rfl (by decide) (by decide) (fun i hi => by
    match i, hi with
    | 0, _ => exact eqI k29
    | 1, _ => exact eqI k30
    | 2, _ => exact eqI k31
    | 3, _ => exact eqI k32
    | 4, _ => exact eqI k33
    | 5, _ => exact eqI k34
    | 6, _ => exact eqI k35
    | 7, _ => exact eqI k36)
  obtain ⟨c2, ec2⟩ := exa_v k7
  have S2 := Sta.start ec2 (Or.inr ⟨hw _ (List.mem_of_getElem? (i := 83) rfl), hw _ (List.mem_of_getElem? (i := 106) rfl)⟩)
  have X2 := Exa.start ec2 k7
  obtain ⟨m2, em2⟩ := exa_v k21
  have T2 : Str s s.heap m2 ([115, 105, 109, 112, 108, 101] : List Int32) := str_of hfit em2 k21 k22 k23 k24 rfl (by decide) (by decide) (fun i hi => by
    match i, hi with
    | 0, _ => exact eqI k37
    | 1, _ => exact eqI k38
    | 2, _ => exact eqI k39
    | 3, _ => exact eqI k40
    | 4, _ => exact eqI k41
    | 5, _ => exact eqI k42)
  obtain ⟨c3, ec3⟩ := exa_v k9
  have S3 := Sta.start ec3 (Or.inr ⟨hw _ (List.mem_of_getElem? (i := 83) rfl), hw _ (List.mem_of_getElem? (i := 107) rfl)⟩)
  have X3 := Exa.start ec3 k9
  obtain ⟨m3, em3⟩ := exa_v k25
  have T3 : Str s s.heap m3 ([116, 101, 114, 109, 119, 101, 105, 103, 104, 116] : List Int32) := str_of hfit em3 k25 k26 k27 k28 rfl (by decide) (by decide) (fun i hi => by
    match i, hi with
    | 0, _ => exact eqI k43
    | 1, _ => exact eqI k44
    | 2, _ => exact eqI k45
    | 3, _ => exact eqI k46
    | 4, _ => exact eqI k47
    | 5, _ => exact eqI k48
    | 6, _ => exact eqI k49
    | 7, _ => exact eqI k50
    | 8, _ => exact eqI k51
    | 9, _ => exact eqI k52)
  obtain ⟨va, eva⟩ := exa_v k2
  have SV := Sta.start eva (Or.inr ⟨hw _ (List.mem_of_getElem? (i := 83) rfl), hw _ (List.mem_of_getElem? (i := 97) rfl)⟩)
  obtain ⟨kv, AV⟩ := arr_of (vs := [Value.ref c0, Value.ref c1, Value.ref c2, Value.ref c3]) (dv := .null) hfit eva k1 k3 (by decide) rfl (fun i hi => by
    match i, hi with
    | 0, _ => exact eqA ec0 k4
    | 1, _ => exact eqA ec1 k6
    | 2, _ => exact eqA ec2 k8
    | 3, _ => exact eqA ec3 k10) (Nat.le_of_ble_eq_true rfl)
  have hEn : En s va kv c0 c1 c2 c3 m0 m1 m2 m3 := ⟨SV, AV, Exa.start eva k2, ⟨S0, X0, fld_start ec0 em0, T0⟩, ⟨S1, X1, fld_start ec1 em1, T1⟩, ⟨S2, X2, fld_start ec2 em2, T2⟩, ⟨S3, X3, fld_start ec3 em3, T3⟩⟩
  have hEL : EW s _ consts_1 := (EW.cons (hw _ (List.mem_of_getElem? (i := 0) rfl)) (by simp) (EW.cons (hw _ (List.mem_of_getElem? (i := 8) rfl)) (by decide) (EW.cons (hw _ (List.mem_of_getElem? (i := 140) rfl)) (by decide) (EW.cons (hw _ (List.mem_of_getElem? (i := 137) rfl)) (by decide) (EW.cons (hw _ (List.mem_of_getElem? (i := 141) rfl)) (by decide) (EW.cons (hw _ (List.mem_of_getElem? (i := 139) rfl)) (by simp) EW.nil))))))
  have hCHv : CHv s consts_1 s.vm s.heap := CHv.start hEL (fun p hp => hcalls.1 p hp) (hsets _ (List.mem_of_getElem? (i := 2) rfl)) (hw _ (List.mem_of_getElem? (i := 3) rfl)) (hw _ (List.mem_of_getElem? (i := 2) rfl))
  obtain ⟨n, o, h1, h2, h3, v, L, rfl, ⟨rfl, N, -⟩, hCH, hE, hWm⟩ := law_met l s _ hw hEL s.heap.size va kv c0 c1 c2 c3 m0 m1 m2 m3 oe i0 i1 i2 i3 s.heap hEn hOe hB p e ha hc hk s m _ below hf ((Spec.applies_iff_loose hf).mp happ).1 ⟨rfl, State.Warmed39.refl s, rfl, hCHv, Old.start s, fun x q => nomatch q⟩ trivial
  refine ⟨n, _, h1, h2, h3, hpost _ _ _ _ _ _ ⟨Cond.after_iff.mpr rfl, Cond.after_iff.mpr (eq_i res_at (Term.int_eval (1)) rfl), trivial⟩ ⟨hE.1, hE.2.1, hE.2.2.1, (hE.2.2.2.sift fun y hy => Or.inr (N y hy)).mono (by decide) (by decide)⟩⟩
theorem main_1_1 : Claimed_1_1 := comes_1 fun _ _ _ _ _ _ h hF => ⟨h.1, hF⟩
theorem main_1_2 : Claimed_1_2 := comes_1 fun _ _ _ _ _ _ h hF => ⟨h.2.1, hF⟩
end Jvm.Pilot.@@N@@
namespace Jvm.Pilot.@@N@@
open Jvm Jvm.ClassFile Sem Op Lib Jvm.Free Jvm.Stand Jvm.Pilot.@@N@@.Jvm.D
/-! MADE BY PROGRAM (witnessworld.py) out of the Statement's table words and the real class files: 24 classes; the members and pool entries that the words name. The judged class is class 1, her method 1. -/
namespace start1
open Jvm.ClassFile
def u (s : String) : CpInfo := .utf8 (stringToUtf16 s)
/-- a pool by its gaps: so many unusable entries, then the entry; so many at the end -/
def gap : Nat → List CpInfo → List CpInfo
  | 0, r => r
  | n + 1, r => .unusable :: gap n r
def poolList (es : List (Nat × CpInfo)) (last : Nat) : List CpInfo := es.foldr (fun e r => gap e.1 (e.2 :: r)) (gap last [])
def pool (es : List (Nat × CpInfo)) (last : Nat) : Array CpInfo := ⟨poolList es last⟩
def fileOf (pool : Array CpInfo) (this : Nat) (attrs : Array Attribute := #[]) (ms : Array MethodInfo := #[]) (fl : Nat := 33) (sup : Nat := 0) (ifs : Array Nat := #[]) (fds : Array FieldInfo := #[]) : ClassFile where
  minorVersion := 0
  majorVersion := 65
  constantPool := pool
  accessFlags := fl
  thisClass := this
  superClass := sup
  interfaces := ifs
  fields := fds
  methods := ms
  attributes := attrs
def plain (name : String) (sup : Option ClassId) : Class where
  name := name
  kind := .ordinary
  loader := none
  accessFlags := 33
  super := sup
  interfaces := #[]
  cf := none
  fields := #[]
  methods := #[]
  instanceTypes := #[]
  staticTypes := #[]
  resolved := #[]
  callSites := []
  init := .initialized
  statics := none
  mirror := none

def pool0 : Array CpInfo := pool [(5, u "<init>"), (0, u "()V"), (1, .class_ 10), (1, u "java/lang/Object"), (85, u "clone"), (0, u "()Ljava/lang/Object;")] 26

def k0c0 : Code := { maxStack := 0, maxLocals := 1, code := object_method_1_code, exceptionTable := #[], attributes := #[] }
def k0m0 : Method := { name := "<init>", desc := "()V", sig := { parameters := [], returnType := none }, accessFlags := 1, code := some k0c0 }
def k0m1 : Method := { name := "clone", desc := "()Ljava/lang/Object;", sig := { parameters := [], returnType := some (.object "java/lang/Object") }, accessFlags := 260, code := none }
/-- java/lang/Object -/
def k0 : Class := { plain "java/lang/Object" none with
  accessFlags := 33
  interfaces := #[]
  cf := some (fileOf pool0 8 #[] #[{ accessFlags := 1, nameIndex := 5, descriptorIndex := 6, attributes := #[] }, { accessFlags := 260, nameIndex := 96, descriptorIndex := 97, attributes := #[] }] 33 0 #[] #[])
  fields := #[]
  methods := #[k0m0, k0m1]
  instanceTypes := #[]
  staticTypes := #[]
  resolved := Array.replicate 124 none
  statics := none }

def pool1 : Array CpInfo := pool [(2, .class_ 4), (1, u "java/lang/Object"), (0, u "<init>"), (0, u "()V"), (0, .string 8), (0, u ""), (0, .string 10), (0, u "rw"), (0, .string 12), (0, u "distance"), (0, .string 14), (0, u "simple"), (0, .string 16), (0, u "termweight"), (0, .methodref 18 19), (0, .class_ 20), (0, .nameAndType 21 22), (0, u "java/lang/String"), (0, u "length"), (0, u "()I"), (0, .integer 2147483647), (0, .methodref 25 26), (0, .class_ 27), (0, .nameAndType 28 29), (0, u "com/example/contesta/contesta/rank/ModelNamedPinLaw"), (0, u "make"), (0, u "(ILjava/lang/String;IJJ)Ljava/lang/String;"), (0, .methodref 18 31), (0, .nameAndType 32 33), (0, u "equals"), (0, u "(Ljava/lang/Object;)Z"), (0, .fieldref 35 36), (0, .class_ 37), (0, .nameAndType 38 39), (0, u "com/example/contesta/contesta/rank/Model"), (0, u "RW"), (0, u "Lcom/example/contesta/contesta/rank/Model;"), (0, .fieldref 35 41), (0, .nameAndType 42 39), (0, u "DISTANCE"), (0, .fieldref 35 44), (0, .nameAndType 45 39), (0, u "SIMPLE"), (0, .fieldref 35 47), (0, .nameAndType 48 39), (0, u "TERM_WEIGHT"), (0, .methodref 35 50), (0, .nameAndType 51 52), (0, u "named"), (0, u "(Ljava/lang/String;)Ljava/util/Optional;"), (0, .methodref 54 55), (0, .class_ 56), (0, .nameAndType 57 58), (0, u "java/util/Optional"), (0, u "orElse"), (0, u "(Ljava/lang/Object;)Ljava/lang/Object;"), (0, .methodref 18 60), (0, .nameAndType 61 62), (0, u "charAt"), (0, u "(I)C"), (0, .long 255), (1, .methodref 25 66), (0, .nameAndType 67 68), (0, u "at"), (0, u "(Ljava/lang/String;IIJJ)C"), (0, .methodref 18 70), (0, .nameAndType 5 71), (0, u "([C)V"), (2, u "law"), (0, u "(IJJI)Z")] 5

def k1m0 : Method := { name := "<init>", desc := "()V", sig := { parameters := [], returnType := none }, accessFlags := 1, code := none }
def k1c1 : Code := { maxStack := 7, maxLocals := 13, code := code, exceptionTable := #[], attributes := #[] }
def k1m1 : Method := { name := "law", desc := "(IJJI)Z", sig := { parameters := [.int, .long, .long, .int], returnType := some .boolean }, accessFlags := 9, code := some k1c1 }
def k1c2 : Code := { maxStack := 5, maxLocals := 9, code := method_3_code, exceptionTable := #[], attributes := #[] }
def k1m2 : Method := { name := "at", desc := "(Ljava/lang/String;IIJJ)C", sig := { parameters := [(.object "java/lang/String"), .int, .int, .long, .long], returnType := some .char }, accessFlags := 10, code := some k1c2 }
def k1c3 : Code := { maxStack := 9, maxLocals := 8, code := method_4_code, exceptionTable := #[], attributes := #[] }
def k1m3 : Method := { name := "make", desc := "(ILjava/lang/String;IJJ)Ljava/lang/String;", sig := { parameters := [.int, (.object "java/lang/String"), .int, .long, .long], returnType := some (.object "java/lang/String") }, accessFlags := 10, code := some k1c3 }
/-- com/example/contesta/contesta/rank/ModelNamedPinLaw -/
def k1 : Class := { plain "com/example/contesta/contesta/rank/ModelNamedPinLaw" (some 0) with
  accessFlags := 49
  interfaces := #[]
  cf := some (fileOf pool1 25 #[] #[{ accessFlags := 1, nameIndex := 5, descriptorIndex := 6, attributes := #[] }, { accessFlags := 9, nameIndex := 74, descriptorIndex := 75, attributes := #[] }, { accessFlags := 10, nameIndex := 67, descriptorIndex := 68, attributes := #[] }, { accessFlags := 10, nameIndex := 28, descriptorIndex := 29, attributes := #[] }] 49 2 #[] #[])
  fields := #[]
  methods := #[k1m0, k1m1, k1m2, k1m3]
  instanceTypes := #[]
  staticTypes := #[]
  resolved := Array.replicate 81 none
  statics := none }

def pool2 : Array CpInfo := pool [(1, .class_ 2), (0, u "java/io/Serializable"), (0, .class_ 4), (0, u "java/lang/Object")] 2

/-- java/io/Serializable -/
def k2 : Class := { plain "java/io/Serializable" (some 0) with
  accessFlags := 1537
  interfaces := #[]
  cf := some (fileOf pool2 1 #[] #[] 1537 3 #[] #[])
  fields := #[]
  methods := #[]
  instanceTypes := #[]
  staticTypes := #[]
  resolved := Array.replicate 7 none
  statics := none }

def pool3 : Array CpInfo := pool [(1, .class_ 2), (0, u "java/lang/Comparable"), (0, .class_ 4), (0, u "java/lang/Object")] 7

/-- java/lang/Comparable -/
def k3 : Class := { plain "java/lang/Comparable" (some 0) with
  accessFlags := 1537
  interfaces := #[]
  cf := some (fileOf pool3 1 #[] #[] 1537 3 #[] #[])
  fields := #[]
  methods := #[]
  instanceTypes := #[]
  staticTypes := #[]
  resolved := Array.replicate 12 none
  statics := none }

def pool4 : Array CpInfo := pool [(2, .class_ 4), (1, u "java/lang/CharSequence"), (42, .class_ 48), (0, u "java/lang/CharSequence$1CodePointIterator"), (10, .class_ 60), (0, u "java/lang/CharSequence$1CharIterator"), (5, .class_ 67), (0, u "java/lang/Object")] 63

/-- java/lang/CharSequence -/
def k4 : Class := { plain "java/lang/CharSequence" (some 0) with
  accessFlags := 1537
  interfaces := #[]
  cf := some (fileOf pool4 2 #[.nestMembers #[47, 59]] #[] 1537 66 #[] #[])
  fields := #[]
  methods := #[]
  instanceTypes := #[]
  staticTypes := #[]
  resolved := Array.replicate 131 none
  statics := none }

def pool5 : Array CpInfo := pool [(1, .class_ 2), (0, u "java/lang/constant/Constable"), (0, .class_ 4), (0, u "java/lang/Object")] 6

/-- java/lang/constant/Constable -/
def k5 : Class := { plain "java/lang/constant/Constable" (some 0) with
  accessFlags := 1537
  interfaces := #[]
  cf := some (fileOf pool5 1 #[] #[] 1537 3 #[] #[])
  fields := #[]
  methods := #[]
  instanceTypes := #[]
  staticTypes := #[]
  resolved := Array.replicate 11 none
  statics := none }

def pool6 : Array CpInfo := pool [(1, .class_ 2), (0, u "java/lang/constant/ConstantDesc"), (0, .class_ 4), (0, u "java/lang/Object")] 32

/-- java/lang/constant/ConstantDesc -/
def k6 : Class := { plain "java/lang/constant/ConstantDesc" (some 0) with
  accessFlags := 1537
  interfaces := #[]
  cf := some (fileOf pool6 1 #[] #[] 1537 3 #[] #[])
  fields := #[]
  methods := #[]
  instanceTypes := #[]
  staticTypes := #[]
  resolved := Array.replicate 37 none
  statics := none }

def pool7 : Array CpInfo := pool [(1, .methodref 2 3), (0, .class_ 4), (0, .nameAndType 5 6), (0, u "java/lang/Object"), (0, u "<init>"), (0, u "()V"), (0, .string 8), (0, u ""), (0, .fieldref 10 11), (0, .class_ 12), (0, .nameAndType 13 14), (0, u "java/lang/String"), (0, u "value"), (0, u "[B"), (0, .fieldref 10 16), (0, .nameAndType 17 18), (0, u "coder"), (0, u "B"), (2, u "hash"), (0, u "I"), (2, u "hashIsZero"), (0, u "Z"), (0, .methodref 10 28), (0, .nameAndType 5 29), (0, u "([CIILjava/lang/Void;)V"), (8, .fieldref 10 39), (0, .nameAndType 40 26), (0, u "COMPACT_STRINGS"), (1, .class_ 44), (1, u "java/lang/StringUTF16"), (0, u "compress"), (1, .methodref 42 48), (0, .nameAndType 49 50), (0, u "coderFromArrayLen"), (0, u "([BI)B"), (56, .class_ 109), (1, u "java/lang/StringLatin1"), (32, u "()Z"), (34, .methodref 42 178), (0, .nameAndType 45 179), (0, u "([CII)[B"), (154, u "()I"), (0, .methodref 10 336), (0, .nameAndType 17 337), (0, u "()B"), (25, u "([BI)C"), (27, u "(II)V"), (35, u "(I)C"), (64, .methodref 10 493), (0, .nameAndType 494 142), (0, u "isLatin1"), (0, .methodref 107 496), (0, .nameAndType 497 363), (0, u "charAt"), (3, u "checkIndex"), (5, u "length"), (33, .methodref 107 542), (0, .nameAndType 543 544), (0, u "equals"), (0, u "([B[B)Z"), (28, u "(Ljava/lang/Object;)Z"), (1, .class_ 576), (0, u "java/lang/CharSequence"), (22, u "CASE_INSENSITIVE_ORDER"), (0, u "Ljava/util/Comparator;"), (409, u "([C)V"), (42, .fieldref 1054 1055), (0, .class_ 1056), (0, .nameAndType 1057 1058), (0, u "jdk/internal/util/Preconditions"), (0, u "SIOOBE_FORMATTER"), (0, u "Ljava/util/function/BiFunction;"), (0, .methodref 1054 1060), (0, .nameAndType 501 1061), (0, u "(IILjava/util/function/BiFunction;)I"), (39, u "serialPersistentFields"), (0, u "[Ljava/io/ObjectStreamField;"), (0, .class_ 1104), (0, u "java/lang/String$CaseInsensitiveComparator"), (1, .class_ 1107), (0, u "java/io/Serializable"), (0, .class_ 1109), (0, u "java/lang/Comparable"), (0, .class_ 1111), (0, u "java/lang/constant/Constable"), (0, .class_ 1113), (0, u "java/lang/constant/ConstantDesc"), (2, u "serialVersionUID"), (0, u "J"), (3, u "REPL"), (0, u "C"), (2, u "LATIN1"), (1, u "UTF16")] 323

def k7m0 : Method := { name := "<init>", desc := "()V", sig := { parameters := [], returnType := none }, accessFlags := 1, code := none }
def k7c1 : Code := { maxStack := 5, maxLocals := 2, code := jdk_42_method_3_code, exceptionTable := #[], attributes := #[] }
def k7m1 : Method := { name := "<init>", desc := "([C)V", sig := { parameters := [(.array .char)], returnType := none }, accessFlags := 1, code := some k7c1 }
def k7c2 : Code := { maxStack := 2, maxLocals := 1, code := jdk_42_method_54_code, exceptionTable := #[], attributes := #[] }
def k7m2 : Method := { name := "length", desc := "()I", sig := { parameters := [], returnType := some .int }, accessFlags := 1, code := some k7c2 }
def k7c3 : Code := { maxStack := 2, maxLocals := 2, code := jdk_42_method_56_code, exceptionTable := #[], attributes := #[] }
def k7m3 : Method := { name := "charAt", desc := "(I)C", sig := { parameters := [.int], returnType := some .char }, accessFlags := 1, code := some k7c3 }
def k7c4 : Code := { maxStack := 2, maxLocals := 3, code := jdk_42_method_66_code, exceptionTable := #[], attributes := #[] }
def k7m4 : Method := { name := "equals", desc := "(Ljava/lang/Object;)Z", sig := { parameters := [(.object "java/lang/Object")], returnType := some .boolean }, accessFlags := 1, code := some k7c4 }
def k7c5 : Code := { maxStack := 4, maxLocals := 6, code := jdk_42_method_149_code, exceptionTable := #[], attributes := #[] }
def k7m5 : Method := { name := "<init>", desc := "([CIILjava/lang/Void;)V", sig := { parameters := [(.array .char), .int, .int, (.object "java/lang/Void")], returnType := none }, accessFlags := 2, code := some k7c5 }
def k7c6 : Code := { maxStack := 1, maxLocals := 1, code := jdk_42_method_152_code, exceptionTable := #[], attributes := #[] }
def k7m6 : Method := { name := "coder", desc := "()B", sig := { parameters := [], returnType := some .byte }, accessFlags := 0, code := some k7c6 }
def k7c7 : Code := { maxStack := 1, maxLocals := 1, code := jdk_42_method_154_code, exceptionTable := #[], attributes := #[] }
def k7m7 : Method := { name := "isLatin1", desc := "()Z", sig := { parameters := [], returnType := some .boolean }, accessFlags := 0, code := some k7c7 }
def k7c8 : Code := { maxStack := 3, maxLocals := 2, code := jdk_42_method_155_code, exceptionTable := #[], attributes := #[] }
def k7m8 : Method := { name := "checkIndex", desc := "(II)V", sig := { parameters := [.int, .int], returnType := none }, accessFlags := 8, code := some k7c8 }
/-- java/lang/String -/
def k7 : Class := { plain "java/lang/String" (some 0) with
  accessFlags := 49
  interfaces := #[2, 3, 4, 5, 6]
  cf := some (fileOf pool7 10 #[.nestMembers #[1103]] #[{ accessFlags := 1, nameIndex := 5, descriptorIndex := 6, attributes := #[] }, { accessFlags := 1, nameIndex := 5, descriptorIndex := 1010, attributes := #[] }, { accessFlags := 1, nameIndex := 507, descriptorIndex := 334, attributes := #[] }, { accessFlags := 1, nameIndex := 497, descriptorIndex := 427, attributes := #[] }, { accessFlags := 1, nameIndex := 543, descriptorIndex := 573, attributes := #[] }, { accessFlags := 2, nameIndex := 5, descriptorIndex := 29, attributes := #[] }, { accessFlags := 0, nameIndex := 17, descriptorIndex := 337, attributes := #[] }, { accessFlags := 0, nameIndex := 494, descriptorIndex := 142, attributes := #[] }, { accessFlags := 8, nameIndex := 501, descriptorIndex := 391, attributes := #[] }] 49 2 #[1106, 1108, 575, 1110, 1112] #[{ accessFlags := 18, nameIndex := 13, descriptorIndex := 14, attributes := #[] }, { accessFlags := 18, nameIndex := 17, descriptorIndex := 18, attributes := #[] }, { accessFlags := 2, nameIndex := 21, descriptorIndex := 22, attributes := #[] }, { accessFlags := 2, nameIndex := 25, descriptorIndex := 26, attributes := #[] }, { accessFlags := 26, nameIndex := 1116, descriptorIndex := 1117, attributes := #[] }, { accessFlags := 24, nameIndex := 40, descriptorIndex := 26, attributes := #[] }, { accessFlags := 26, nameIndex := 1101, descriptorIndex := 1102, attributes := #[] }, { accessFlags := 26, nameIndex := 1121, descriptorIndex := 1122, attributes := #[] }, { accessFlags := 25, nameIndex := 599, descriptorIndex := 600, attributes := #[] }, { accessFlags := 24, nameIndex := 1125, descriptorIndex := 18, attributes := #[] }, { accessFlags := 24, nameIndex := 1127, descriptorIndex := 18, attributes := #[] }])
  fields := #[{ name := "value", type := (.array .byte), accessFlags := 18, slot := 0, constantValue := 0 }, { name := "coder", type := .byte, accessFlags := 18, slot := 1, constantValue := 0 }, { name := "hash", type := .int, accessFlags := 2, slot := 2, constantValue := 0 }, { name := "hashIsZero", type := .boolean, accessFlags := 2, slot := 3, constantValue := 0 }, { name := "serialVersionUID", type := .long, accessFlags := 26, slot := 0, constantValue := 0 }, { name := "COMPACT_STRINGS", type := .boolean, accessFlags := 24, slot := 1, constantValue := 0 }, { name := "serialPersistentFields", type := (.array (.object "java/io/ObjectStreamField")), accessFlags := 26, slot := 2, constantValue := 0 }, { name := "REPL", type := .char, accessFlags := 26, slot := 3, constantValue := 0 }, { name := "CASE_INSENSITIVE_ORDER", type := (.object "java/util/Comparator"), accessFlags := 25, slot := 4, constantValue := 0 }, { name := "LATIN1", type := .byte, accessFlags := 24, slot := 5, constantValue := 0 }, { name := "UTF16", type := .byte, accessFlags := 24, slot := 6, constantValue := 0 }]
  methods := #[k7m0, k7m1, k7m2, k7m3, k7m4, k7m5, k7m6, k7m7, k7m8]
  instanceTypes := #[(.array .byte), .byte, .int, .boolean]
  staticTypes := #[.long, .boolean, (.array (.object "java/io/ObjectStreamField")), .char, (.object "java/util/Comparator"), .byte, .byte]
  resolved := Array.replicate 1451 none
  statics := some 0 }

def pool8 : Array CpInfo := pool [(1, .class_ 2), (0, u "java/lang/String"), (1, .class_ 6), (1, u "java/lang/Object"), (0, u "<init>"), (0, u "()V"), (0, .methodref 1 10), (0, .nameAndType 11 12), (0, u "checkIndex"), (0, u "(II)V"), (1, .class_ 16), (1, u "java/lang/StringLatin1"), (36, u "([BI)C"), (67, u "$assertionsDisabled"), (0, u "Z"), (98, .class_ 223), (1, u "java/lang/StringLatin1$LinesSpliterator"), (28, u "charAt"), (28, u "equals"), (0, u "([B[B)Z"), (107, .class_ 391), (0, u "java/lang/StringLatin1$CharsSpliterator")] 3

def k8m0 : Method := { name := "<init>", desc := "()V", sig := { parameters := [], returnType := none }, accessFlags := 0, code := none }
def k8c1 : Code := { maxStack := 2, maxLocals := 2, code := jdk_43_method_2_code, exceptionTable := #[], attributes := #[] }
def k8m1 : Method := { name := "charAt", desc := "([BI)C", sig := { parameters := [(.array .byte), .int], returnType := some .char }, accessFlags := 9, code := some k8c1 }
def k8c2 : Code := { maxStack := 3, maxLocals := 3, code := jdk_43_method_13_code, exceptionTable := #[], attributes := #[] }
def k8m2 : Method := { name := "equals", desc := "([B[B)Z", sig := { parameters := [(.array .byte), (.array .byte)], returnType := some .boolean }, accessFlags := 9, code := some k8c2 }
/-- java/lang/StringLatin1 -/
def k8 : Class := { plain "java/lang/StringLatin1" (some 0) with
  accessFlags := 48
  interfaces := #[]
  cf := some (fileOf pool8 14 #[.nestMembers #[390, 221]] #[{ accessFlags := 0, nameIndex := 7, descriptorIndex := 8, attributes := #[] }, { accessFlags := 9, nameIndex := 252, descriptorIndex := 53, attributes := #[] }, { accessFlags := 9, nameIndex := 281, descriptorIndex := 282, attributes := #[] }] 48 4 #[] #[{ accessFlags := 4120, nameIndex := 121, descriptorIndex := 122, attributes := #[] }])
  fields := #[{ name := "$assertionsDisabled", type := .boolean, accessFlags := 4120, slot := 0, constantValue := 0 }]
  methods := #[k8m0, k8m1, k8m2]
  instanceTypes := #[]
  staticTypes := #[.boolean]
  resolved := Array.replicate 395 none
  statics := none }

def pool9 : Array CpInfo := pool [(2, .class_ 4), (1, u "java/lang/Object"), (0, u "<init>"), (0, u "()V"), (17, .class_ 26), (1, u "jdk/internal/util/Preconditions"), (6, u "checkIndex"), (21, .class_ 56), (0, u "jdk/internal/util/Preconditions$4"), (57, .class_ 115), (0, u "jdk/internal/util/Preconditions$1"), (7, u "SIOOBE_FORMATTER"), (0, u "Ljava/util/function/BiFunction;"), (0, .class_ 126), (0, u "jdk/internal/util/Preconditions$2"), (3, u "AIOOBE_FORMATTER"), (0, .class_ 132), (0, u "jdk/internal/util/Preconditions$3"), (3, u "IOOBE_FORMATTER"), (41, u "(IILjava/util/function/BiFunction;)I")] 15

def k9m0 : Method := { name := "<init>", desc := "()V", sig := { parameters := [], returnType := none }, accessFlags := 1, code := none }
def k9c1 : Code := { maxStack := 3, maxLocals := 3, code := jdk_41_method_11_code, exceptionTable := #[], attributes := #[] }
def k9m1 : Method := { name := "checkIndex", desc := "(IILjava/util/function/BiFunction;)I", sig := { parameters := [.int, .int, (.object "java/util/function/BiFunction")], returnType := some .int }, accessFlags := 9, code := some k9c1 }
/-- jdk/internal/util/Preconditions -/
def k9 : Class := { plain "jdk/internal/util/Preconditions" (some 0) with
  accessFlags := 33
  interfaces := #[]
  cf := some (fileOf pool9 24 #[.nestMembers #[55, 131, 125, 114]] #[{ accessFlags := 1, nameIndex := 5, descriptorIndex := 6, attributes := #[] }, { accessFlags := 9, nameIndex := 33, descriptorIndex := 178, attributes := #[] }] 33 2 #[] #[{ accessFlags := 25, nameIndex := 123, descriptorIndex := 124, attributes := #[] }, { accessFlags := 25, nameIndex := 130, descriptorIndex := 124, attributes := #[] }, { accessFlags := 25, nameIndex := 136, descriptorIndex := 124, attributes := #[] }])
  fields := #[{ name := "SIOOBE_FORMATTER", type := (.object "java/util/function/BiFunction"), accessFlags := 25, slot := 0, constantValue := 0 }, { name := "AIOOBE_FORMATTER", type := (.object "java/util/function/BiFunction"), accessFlags := 25, slot := 1, constantValue := 0 }, { name := "IOOBE_FORMATTER", type := (.object "java/util/function/BiFunction"), accessFlags := 25, slot := 2, constantValue := 0 }]
  methods := #[k9m0, k9m1]
  instanceTypes := #[]
  staticTypes := #[(.object "java/util/function/BiFunction"), (.object "java/util/function/BiFunction"), (.object "java/util/function/BiFunction")]
  resolved := Array.replicate 194 none
  statics := some 1 }

def pool10 : Array CpInfo := pool [(6, .class_ 8), (1, u "java/lang/Object"), (0, u "<init>"), (0, u "()V"), (1, .class_ 14), (1, u "java/lang/StringUTF16"), (31, u "$assertionsDisabled"), (0, u "Z"), (13, u "HI_BYTE_SHIFT"), (0, u "I"), (2, u "LO_BYTE_SHIFT"), (49, .methodref 12 116), (0, .nameAndType 117 118), (0, u "compress"), (0, u "([CI[BII)I"), (3, u "([CII)[B"), (138, u "coderFromArrayLen"), (0, u "([BI)B"), (106, .class_ 371), (1, u "java/lang/StringUTF16$LinesSpliterator"), (58, u "MAX_LENGTH"), (196, .class_ 628), (0, u "java/lang/StringUTF16$CodePointsSpliterator"), (0, .class_ 630), (0, u "java/lang/StringUTF16$CharsSpliterator")] 4

def k10m0 : Method := { name := "<init>", desc := "()V", sig := { parameters := [], returnType := none }, accessFlags := 0, code := none }
def k10c1 : Code := { maxStack := 2, maxLocals := 2, code := jdk_52_method_15_code, exceptionTable := #[], attributes := #[] }
def k10m1 : Method := { name := "coderFromArrayLen", desc := "([BI)B", sig := { parameters := [(.array .byte), .int], returnType := some .byte }, accessFlags := 8, code := some k10c1 }
def k10c2 : Code := { maxStack := 5, maxLocals := 6, code := jdk_52_method_16_code, exceptionTable := #[], attributes := #[] }
def k10m2 : Method := { name := "compress", desc := "([CII)[B", sig := { parameters := [(.array .char), .int, .int], returnType := some (.array .byte) }, accessFlags := 9, code := some k10c2 }
def k10c3 : Code := { maxStack := 3, maxLocals := 7, code := jdk_52_method_21_code, exceptionTable := #[], attributes := #[] }
def k10m3 : Method := { name := "compress", desc := "([CI[BII)I", sig := { parameters := [(.array .char), .int, (.array .byte), .int, .int], returnType := some .int }, accessFlags := 9, code := some k10c3 }
/-- java/lang/StringUTF16 -/
def k10 : Class := { plain "java/lang/StringUTF16" (some 0) with
  accessFlags := 48
  interfaces := #[]
  cf := some (fileOf pool10 12 #[.nestMembers #[627, 629, 369]] #[{ accessFlags := 0, nameIndex := 9, descriptorIndex := 10, attributes := #[] }, { accessFlags := 8, nameIndex := 261, descriptorIndex := 262, attributes := #[] }, { accessFlags := 9, nameIndex := 117, descriptorIndex := 122, attributes := #[] }, { accessFlags := 9, nameIndex := 117, descriptorIndex := 118, attributes := #[] }] 48 6 #[] #[{ accessFlags := 26, nameIndex := 61, descriptorIndex := 62, attributes := #[] }, { accessFlags := 26, nameIndex := 65, descriptorIndex := 62, attributes := #[] }, { accessFlags := 24, nameIndex := 430, descriptorIndex := 62, attributes := #[] }, { accessFlags := 4120, nameIndex := 46, descriptorIndex := 47, attributes := #[] }])
  fields := #[{ name := "HI_BYTE_SHIFT", type := .int, accessFlags := 26, slot := 0, constantValue := 0 }, { name := "LO_BYTE_SHIFT", type := .int, accessFlags := 26, slot := 1, constantValue := 0 }, { name := "MAX_LENGTH", type := .int, accessFlags := 24, slot := 2, constantValue := 0 }, { name := "$assertionsDisabled", type := .boolean, accessFlags := 4120, slot := 3, constantValue := 0 }]
  methods := #[k10m0, k10m1, k10m2, k10m3]
  instanceTypes := #[]
  staticTypes := #[.int, .int, .int, .boolean]
  resolved := Array.replicate 635 none
  statics := none }

def pool11 : Array CpInfo := pool [(2, .class_ 4), (1, u "java/lang/Enum"), (0, u "name"), (0, u "Ljava/lang/String;"), (2, u "ordinal"), (0, u "I"), (1, .class_ 14), (1, u "java/lang/Object"), (4, u "hash"), (86, .class_ 108), (1, u "java/lang/Enum$EnumDesc"), (2, .class_ 112), (0, u "java/lang/constant/Constable"), (0, .class_ 114), (0, u "java/lang/Comparable"), (0, .class_ 116), (0, u "java/io/Serializable")] 87

/-- java/lang/Enum -/
def k11 : Class := { plain "java/lang/Enum" (some 0) with
  accessFlags := 1057
  interfaces := #[5, 3, 2]
  cf := some (fileOf pool11 2 #[.nestMembers #[106]] #[] 1057 12 #[111, 113, 115] #[{ accessFlags := 18, nameIndex := 5, descriptorIndex := 6, attributes := #[] }, { accessFlags := 18, nameIndex := 9, descriptorIndex := 10, attributes := #[] }, { accessFlags := 2, nameIndex := 19, descriptorIndex := 10, attributes := #[] }])
  fields := #[{ name := "name", type := (.object "java/lang/String"), accessFlags := 18, slot := 0, constantValue := 0 }, { name := "ordinal", type := .int, accessFlags := 18, slot := 1, constantValue := 0 }, { name := "hash", type := .int, accessFlags := 2, slot := 2, constantValue := 0 }]
  methods := #[]
  instanceTypes := #[(.object "java/lang/String"), .int, .int]
  staticTypes := #[]
  resolved := Array.replicate 204 none
  statics := none }

def pool12 : Array CpInfo := pool [(1, .class_ 2), (0, u "com/example/contesta/contesta/rank/Model"), (2, u "RW"), (0, u "Lcom/example/contesta/contesta/rank/Model;"), (2, u "DISTANCE"), (2, u "SIMPLE"), (2, u "TERM_WEIGHT"), (0, .fieldref 1 17), (0, .nameAndType 18 19), (0, u "$VALUES"), (0, u "[Lcom/example/contesta/contesta/rank/Model;"), (0, .methodref 21 22), (0, .class_ 19), (0, .nameAndType 23 24), (0, u "clone"), (0, u "()Ljava/lang/Object;"), (1, .class_ 28), (1, u "java/lang/Enum"), (6, .fieldref 1 36), (0, .nameAndType 37 38), (0, u "label"), (0, u "Ljava/lang/String;"), (2, u "summary"), (0, .methodref 43 44), (0, .class_ 45), (0, .nameAndType 46 47), (0, u "java/util/Optional"), (0, u "empty"), (0, u "()Ljava/util/Optional;"), (0, .methodref 1 49), (0, .nameAndType 50 51), (0, u "values"), (0, u "()[Lcom/example/contesta/contesta/rank/Model;"), (0, .methodref 53 54), (0, .class_ 55), (0, .nameAndType 56 57), (0, u "java/lang/String"), (0, u "equals"), (0, u "(Ljava/lang/Object;)Z"), (0, .methodref 43 59), (0, .nameAndType 60 61), (0, u "of"), (0, u "(Ljava/lang/Object;)Ljava/util/Optional;"), (33, u "named"), (0, u "(Ljava/lang/String;)Ljava/util/Optional;")] 7

def k12c0 : Code := { maxStack := 1, maxLocals := 0, code := prog_31_method_1_code, exceptionTable := #[], attributes := #[] }
def k12m0 : Method := { name := "values", desc := "()[Lcom/example/contesta/contesta/rank/Model;", sig := { parameters := [], returnType := some (.array (.object "com/example/contesta/contesta/rank/Model")) }, accessFlags := 9, code := some k12c0 }
def k12c1 : Code := { maxStack := 2, maxLocals := 6, code := prog_31_method_6_code, exceptionTable := #[], attributes := #[] }
def k12m1 : Method := { name := "named", desc := "(Ljava/lang/String;)Ljava/util/Optional;", sig := { parameters := [(.object "java/lang/String")], returnType := some (.object "java/util/Optional") }, accessFlags := 9, code := some k12c1 }
/-- com/example/contesta/contesta/rank/Model -/
def k12 : Class := { plain "com/example/contesta/contesta/rank/Model" (some 11) with
  accessFlags := 16433
  interfaces := #[]
  cf := some (fileOf pool12 1 #[] #[{ accessFlags := 9, nameIndex := 50, descriptorIndex := 51, attributes := #[] }, { accessFlags := 9, nameIndex := 95, descriptorIndex := 96, attributes := #[] }] 16433 26 #[] #[{ accessFlags := 16409, nameIndex := 5, descriptorIndex := 6, attributes := #[] }, { accessFlags := 16409, nameIndex := 9, descriptorIndex := 6, attributes := #[] }, { accessFlags := 16409, nameIndex := 12, descriptorIndex := 6, attributes := #[] }, { accessFlags := 16409, nameIndex := 15, descriptorIndex := 6, attributes := #[] }, { accessFlags := 18, nameIndex := 37, descriptorIndex := 38, attributes := #[] }, { accessFlags := 18, nameIndex := 41, descriptorIndex := 38, attributes := #[] }, { accessFlags := 4122, nameIndex := 18, descriptorIndex := 19, attributes := #[] }])
  fields := #[{ name := "RW", type := (.object "com/example/contesta/contesta/rank/Model"), accessFlags := 16409, slot := 0, constantValue := 0 }, { name := "DISTANCE", type := (.object "com/example/contesta/contesta/rank/Model"), accessFlags := 16409, slot := 1, constantValue := 0 }, { name := "SIMPLE", type := (.object "com/example/contesta/contesta/rank/Model"), accessFlags := 16409, slot := 2, constantValue := 0 }, { name := "TERM_WEIGHT", type := (.object "com/example/contesta/contesta/rank/Model"), accessFlags := 16409, slot := 3, constantValue := 0 }, { name := "label", type := (.object "java/lang/String"), accessFlags := 18, slot := 3, constantValue := 0 }, { name := "summary", type := (.object "java/lang/String"), accessFlags := 18, slot := 4, constantValue := 0 }, { name := "$VALUES", type := (.array (.object "com/example/contesta/contesta/rank/Model")), accessFlags := 4122, slot := 4, constantValue := 0 }]
  methods := #[k12m0, k12m1]
  instanceTypes := #[(.object "java/lang/String"), .int, .int, (.object "java/lang/String"), (.object "java/lang/String")]
  staticTypes := #[(.object "com/example/contesta/contesta/rank/Model"), (.object "com/example/contesta/contesta/rank/Model"), (.object "com/example/contesta/contesta/rank/Model"), (.object "com/example/contesta/contesta/rank/Model"), (.array (.object "com/example/contesta/contesta/rank/Model"))]
  resolved := Array.replicate 104 none
  statics := some 2 }

def pool13 : Array CpInfo := pool [(1, .fieldref 2 3), (0, .class_ 4), (0, .nameAndType 5 6), (0, u "java/util/Optional"), (0, u "EMPTY"), (0, u "Ljava/util/Optional;"), (0, .methodref 8 9), (0, .class_ 10), (0, .nameAndType 11 12), (0, u "java/lang/Object"), (0, u "<init>"), (0, u "()V"), (0, .fieldref 2 14), (0, .nameAndType 15 16), (0, u "value"), (0, u "Ljava/lang/Object;"), (0, .methodref 18 19), (0, .class_ 20), (0, .nameAndType 21 22), (0, u "java/util/Objects"), (0, u "requireNonNull"), (0, u "(Ljava/lang/Object;)Ljava/lang/Object;"), (0, .methodref 2 24), (0, .nameAndType 11 25), (0, u "(Ljava/lang/Object;)V"), (29, u "empty"), (0, u "()Ljava/util/Optional;"), (8, u "(Ljava/lang/Object;)Ljava/util/Optional;"), (16, u "of"), (82, u "orElse")] 21

def k13c0 : Code := { maxStack := 1, maxLocals := 1, code := jdk_32_method_1_code, exceptionTable := #[], attributes := #[] }
def k13m0 : Method := { name := "empty", desc := "()Ljava/util/Optional;", sig := { parameters := [], returnType := some (.object "java/util/Optional") }, accessFlags := 9, code := some k13c0 }
def k13c1 : Code := { maxStack := 2, maxLocals := 2, code := jdk_32_method_2_code, exceptionTable := #[], attributes := #[] }
def k13m1 : Method := { name := "<init>", desc := "(Ljava/lang/Object;)V", sig := { parameters := [(.object "java/lang/Object")], returnType := none }, accessFlags := 2, code := some k13c1 }
def k13c2 : Code := { maxStack := 3, maxLocals := 1, code := jdk_32_method_3_code, exceptionTable := #[], attributes := #[] }
def k13m2 : Method := { name := "of", desc := "(Ljava/lang/Object;)Ljava/util/Optional;", sig := { parameters := [(.object "java/lang/Object")], returnType := some (.object "java/util/Optional") }, accessFlags := 9, code := some k13c2 }
def k13c3 : Code := { maxStack := 1, maxLocals := 2, code := jdk_32_method_15_code, exceptionTable := #[], attributes := #[] }
def k13m3 : Method := { name := "orElse", desc := "(Ljava/lang/Object;)Ljava/lang/Object;", sig := { parameters := [(.object "java/lang/Object")], returnType := some (.object "java/lang/Object") }, accessFlags := 1, code := some k13c3 }
/-- java/util/Optional -/
def k13 : Class := { plain "java/util/Optional" (some 0) with
  accessFlags := 49
  interfaces := #[]
  cf := some (fileOf pool13 2 #[] #[{ accessFlags := 9, nameIndex := 55, descriptorIndex := 56, attributes := #[] }, { accessFlags := 2, nameIndex := 11, descriptorIndex := 25, attributes := #[] }, { accessFlags := 9, nameIndex := 82, descriptorIndex := 65, attributes := #[] }, { accessFlags := 1, nameIndex := 165, descriptorIndex := 22, attributes := #[] }] 49 8 #[] #[{ accessFlags := 26, nameIndex := 5, descriptorIndex := 6, attributes := #[] }, { accessFlags := 18, nameIndex := 15, descriptorIndex := 16, attributes := #[] }])
  fields := #[{ name := "EMPTY", type := (.object "java/util/Optional"), accessFlags := 26, slot := 0, constantValue := 0 }, { name := "value", type := (.object "java/lang/Object"), accessFlags := 18, slot := 0, constantValue := 0 }]
  methods := #[k13m0, k13m1, k13m2, k13m3]
  instanceTypes := #[(.object "java/lang/Object")]
  staticTypes := #[(.object "java/util/Optional")]
  resolved := Array.replicate 187 none
  statics := some 3 }

def pool14 : Array CpInfo := pool [(1, .class_ 2), (0, u "java/lang/Cloneable"), (0, .class_ 4), (0, u "java/lang/Object")] 2

/-- java/lang/Cloneable -/
def k14 : Class := { plain "java/lang/Cloneable" (some 0) with
  accessFlags := 1537
  interfaces := #[]
  cf := some (fileOf pool14 1 #[] #[] 1537 3 #[] #[])
  fields := #[]
  methods := #[]
  instanceTypes := #[]
  staticTypes := #[]
  resolved := Array.replicate 7 none
  statics := none }

def pool15 : Array CpInfo := pool [(2, .class_ 4), (1, u "java/lang/Object"), (0, u "<init>"), (0, u "()V"), (35, .class_ 44), (1, u "java/util/Objects"), (0, u "requireNonNull"), (0, u "(Ljava/lang/Object;)Ljava/lang/Object;")] 137

def k15m0 : Method := { name := "<init>", desc := "()V", sig := { parameters := [], returnType := none }, accessFlags := 2, code := none }
def k15c1 : Code := { maxStack := 2, maxLocals := 1, code := jdk_31_method_10_code, exceptionTable := #[], attributes := #[] }
def k15m1 : Method := { name := "requireNonNull", desc := "(Ljava/lang/Object;)Ljava/lang/Object;", sig := { parameters := [(.object "java/lang/Object")], returnType := some (.object "java/lang/Object") }, accessFlags := 9, code := some k15c1 }
/-- java/util/Objects -/
def k15 : Class := { plain "java/util/Objects" (some 0) with
  accessFlags := 49
  interfaces := #[]
  cf := some (fileOf pool15 42 #[] #[{ accessFlags := 2, nameIndex := 5, descriptorIndex := 6, attributes := #[] }, { accessFlags := 9, nameIndex := 45, descriptorIndex := 46, attributes := #[] }] 49 2 #[] #[])
  fields := #[]
  methods := #[k15m0, k15m1]
  instanceTypes := #[]
  staticTypes := #[]
  resolved := Array.replicate 184 none
  statics := none }

def pool16 : Array CpInfo := pool [(9, u "<init>"), (6, .class_ 18), (1, u "java/lang/Object"), (0, u "()V"), (1, .class_ 23), (1, u "jdk/internal/util/ArraysSupport"), (0, u "LOG2_ARRAY_LONG_INDEX_SCALE"), (0, u "I"), (2, u "U"), (0, u "Ljdk/internal/misc/Unsafe;"), (8, u "BIG_ENDIAN"), (0, u "Z"), (8, u "LOG2_BYTE_BIT_SIZE"), (4, u "LOG2_ARRAY_INT_INDEX_SCALE"), (54, u "JLA"), (0, u "Ljdk/internal/access/JavaLangAccess;"), (11, u "LOG2_ARRAY_BOOLEAN_INDEX_SCALE"), (9, u "LOG2_ARRAY_BYTE_INDEX_SCALE"), (5, u "LOG2_ARRAY_CHAR_INDEX_SCALE"), (5, u "LOG2_ARRAY_SHORT_INDEX_SCALE"), (18, u "LOG2_ARRAY_FLOAT_INDEX_SCALE"), (24, u "LOG2_ARRAY_DOUBLE_INDEX_SCALE"), (89, u "T_BOOLEAN"), (2, u "T_CHAR"), (1, u "T_FLOAT"), (1, u "T_DOUBLE"), (1, u "T_BYTE"), (1, u "T_SHORT"), (1, u "T_INT"), (1, u "T_LONG"), (1, u "SOFT_MAX_ARRAY_LENGTH")] 83

def k16m0 : Method := { name := "<init>", desc := "()V", sig := { parameters := [], returnType := none }, accessFlags := 2, code := none }
/-- jdk/internal/util/ArraysSupport -/
def k16 : Class := { plain "jdk/internal/util/ArraysSupport" (some 0) with
  accessFlags := 33
  interfaces := #[]
  cf := some (fileOf pool16 21 #[] #[{ accessFlags := 2, nameIndex := 9, descriptorIndex := 19, attributes := #[] }] 33 16 #[] #[{ accessFlags := 24, nameIndex := 28, descriptorIndex := 29, attributes := #[] }, { accessFlags := 26, nameIndex := 38, descriptorIndex := 39, attributes := #[] }, { accessFlags := 25, nameIndex := 121, descriptorIndex := 25, attributes := #[] }, { accessFlags := 25, nameIndex := 131, descriptorIndex := 25, attributes := #[] }, { accessFlags := 25, nameIndex := 137, descriptorIndex := 25, attributes := #[] }, { accessFlags := 25, nameIndex := 143, descriptorIndex := 25, attributes := #[] }, { accessFlags := 25, nameIndex := 53, descriptorIndex := 25, attributes := #[] }, { accessFlags := 25, nameIndex := 24, descriptorIndex := 25, attributes := #[] }, { accessFlags := 25, nameIndex := 162, descriptorIndex := 25, attributes := #[] }, { accessFlags := 25, nameIndex := 187, descriptorIndex := 25, attributes := #[] }, { accessFlags := 26, nameIndex := 48, descriptorIndex := 25, attributes := #[] }, { accessFlags := 25, nameIndex := 277, descriptorIndex := 25, attributes := #[] }, { accessFlags := 25, nameIndex := 280, descriptorIndex := 25, attributes := #[] }, { accessFlags := 25, nameIndex := 282, descriptorIndex := 25, attributes := #[] }, { accessFlags := 25, nameIndex := 284, descriptorIndex := 25, attributes := #[] }, { accessFlags := 25, nameIndex := 286, descriptorIndex := 25, attributes := #[] }, { accessFlags := 25, nameIndex := 288, descriptorIndex := 25, attributes := #[] }, { accessFlags := 25, nameIndex := 290, descriptorIndex := 25, attributes := #[] }, { accessFlags := 25, nameIndex := 292, descriptorIndex := 25, attributes := #[] }, { accessFlags := 26, nameIndex := 108, descriptorIndex := 109, attributes := #[] }, { accessFlags := 25, nameIndex := 294, descriptorIndex := 25, attributes := #[] }])
  fields := #[{ name := "U", type := (.object "jdk/internal/misc/Unsafe"), accessFlags := 24, slot := 0, constantValue := 0 }, { name := "BIG_ENDIAN", type := .boolean, accessFlags := 26, slot := 1, constantValue := 0 }, { name := "LOG2_ARRAY_BOOLEAN_INDEX_SCALE", type := .int, accessFlags := 25, slot := 2, constantValue := 0 }, { name := "LOG2_ARRAY_BYTE_INDEX_SCALE", type := .int, accessFlags := 25, slot := 3, constantValue := 0 }, { name := "LOG2_ARRAY_CHAR_INDEX_SCALE", type := .int, accessFlags := 25, slot := 4, constantValue := 0 }, { name := "LOG2_ARRAY_SHORT_INDEX_SCALE", type := .int, accessFlags := 25, slot := 5, constantValue := 0 }, { name := "LOG2_ARRAY_INT_INDEX_SCALE", type := .int, accessFlags := 25, slot := 6, constantValue := 0 }, { name := "LOG2_ARRAY_LONG_INDEX_SCALE", type := .int, accessFlags := 25, slot := 7, constantValue := 0 }, { name := "LOG2_ARRAY_FLOAT_INDEX_SCALE", type := .int, accessFlags := 25, slot := 8, constantValue := 0 }, { name := "LOG2_ARRAY_DOUBLE_INDEX_SCALE", type := .int, accessFlags := 25, slot := 9, constantValue := 0 }, { name := "LOG2_BYTE_BIT_SIZE", type := .int, accessFlags := 26, slot := 10, constantValue := 0 }, { name := "T_BOOLEAN", type := .int, accessFlags := 25, slot := 11, constantValue := 0 }, { name := "T_CHAR", type := .int, accessFlags := 25, slot := 12, constantValue := 0 }, { name := "T_FLOAT", type := .int, accessFlags := 25, slot := 13, constantValue := 0 }, { name := "T_DOUBLE", type := .int, accessFlags := 25, slot := 14, constantValue := 0 }, { name := "T_BYTE", type := .int, accessFlags := 25, slot := 15, constantValue := 0 }, { name := "T_SHORT", type := .int, accessFlags := 25, slot := 16, constantValue := 0 }, { name := "T_INT", type := .int, accessFlags := 25, slot := 17, constantValue := 0 }, { name := "T_LONG", type := .int, accessFlags := 25, slot := 18, constantValue := 0 }, { name := "JLA", type := (.object "jdk/internal/access/JavaLangAccess"), accessFlags := 26, slot := 19, constantValue := 0 }, { name := "SOFT_MAX_ARRAY_LENGTH", type := .int, accessFlags := 25, slot := 20, constantValue := 0 }]
  methods := #[k16m0]
  instanceTypes := #[]
  staticTypes := #[(.object "jdk/internal/misc/Unsafe"), .boolean, .int, .int, .int, .int, .int, .int, .int, .int, .int, .int, .int, .int, .int, .int, .int, .int, .int, (.object "jdk/internal/access/JavaLangAccess"), .int]
  resolved := Array.replicate 378 none
  statics := none }

/-- the primitive byte -/
def k17 : Class := { plain "byte" none with kind := .primitive 'B', accessFlags := 0x411 }
/-- [B -/
def k18 : Class := { plain "[B" (some 0) with kind := .array 17 .byte, interfaces := #[14, 2], accessFlags := 1041 }

/-- the primitive char -/
def k19 : Class := { plain "char" none with kind := .primitive 'C', accessFlags := 0x411 }
/-- [C -/
def k20 : Class := { plain "[C" (some 0) with kind := .array 19 .char, interfaces := #[14, 2], accessFlags := 1041 }

/-- the primitive int -/
def k21 : Class := { plain "int" none with kind := .primitive 'I', accessFlags := 0x411 }
/-- [I -/
def k22 : Class := { plain "[I" (some 0) with kind := .array 21 .int, interfaces := #[14, 2], accessFlags := 1041 }

/-- [Lcom/example/contesta/contesta/rank/Model; -/
def k23 : Class := { plain "[Lcom/example/contesta/contesta/rank/Model;" (some 0) with kind := .array 12 (.object "com/example/contesta/contesta/rank/Model"), interfaces := #[14, 2], accessFlags := 1041 }

def heap : Heap := #[{ cls := 7, slots := #[.long 0, .int 1, .null, .int 0, .null, .int 0, .int 0], vm := .statics 7 },
  { cls := 9, slots := #[.null, .null, .null], vm := .statics 9 },
  { cls := 12, slots := #[.ref 5, .ref 6, .ref 7, .ref 8, .ref 4], vm := .statics 12 },
  { cls := 13, slots := #[.ref 17], vm := .statics 13 },
  { cls := 23, slots := #[.ref 5, .ref 6, .ref 7, .ref 8], vm := .none },
  { cls := 12, slots := #[.null, .int 0, .int 0, .ref 9, .null], vm := .none },
  { cls := 12, slots := #[.null, .int 0, .int 0, .ref 10, .null], vm := .none },
  { cls := 12, slots := #[.null, .int 0, .int 0, .ref 11, .null], vm := .none },
  { cls := 12, slots := #[.null, .int 0, .int 0, .ref 12, .null], vm := .none },
  { cls := 7, slots := #[.ref 13, .int 0, .int 0, .int 0], vm := .none },
  { cls := 7, slots := #[.ref 14, .int 0, .int 0, .int 0], vm := .none },
  { cls := 7, slots := #[.ref 15, .int 0, .int 0, .int 0], vm := .none },
  { cls := 7, slots := #[.ref 16, .int 0, .int 0, .int 0], vm := .none },
  { cls := 18, slots := #[.int 114, .int 119], vm := .none },
  { cls := 18, slots := #[.int 100, .int 105, .int 115, .int 116, .int 97, .int 110, .int 99, .int 101], vm := .none },
  { cls := 18, slots := #[.int 115, .int 105, .int 109, .int 112, .int 108, .int 101], vm := .none },
  { cls := 18, slots := #[.int 116, .int 101, .int 114, .int 109, .int 119, .int 101, .int 105, .int 103, .int 104, .int 116], vm := .none },
  { cls := 13, slots := #[.null], vm := .none }]
def classes : Array Class := #[k0, k1, k2, k3, k4, k5, k6, k7, k8, k9, k10, k11, k12, k13, k14, k15, k16, k17, k18, k19, k20, k21, k22, k23]
def interned : List (Array UInt16 × Addr) := []
def slotsUsed : Nat := 83
def theMethod : MethodId := ⟨1, 1⟩
def args0 : Array Value := #[.int 5, .long 6, .long 7, .int 8]
def aboutOver (below : List Frame) : State where
  vm := { classes := classes, interned := interned.toArray }
  heap := heap
  slotsUsed := slotsUsed
  threads := #[{ frames := .invoking theMethod args0 :: below }]
def below0 : List Frame := [.native { method := ⟨0, 0⟩, args := #[] }]
def about1 : State := aboutOver below0
def p0 : Program := .bare "" "" ""
def e0 : Env := launch0.env 0 0 0
theorem w_frames : about1.frames = Frame.invoking theMethod args0 :: below0 := rfl
set_option maxRecDepth 65536 in
theorem w_args : argsFit about1.vm theMethod args0 = true := by decide +kernel
set_option maxRecDepth 65536 in
theorem w_heap : heapFits about1 = true := by decide +kernel
set_option maxRecDepth 65536 in
theorem w_runnable : about1.curStatus? = some .runnable := by decide +kernel
set_option maxRecDepth 65536 in
theorem w_alone : about1.alone = true := by decide +kernel
set_option maxRecDepth 65536 in
theorem w_named : about1.methodNamed? x = some theMethod := by decide +kernel
set_option maxRecDepth 65536 in
theorem w_hears : about1.hears theMethod below0 = true := by decide +kernel
set_option maxRecDepth 65536 in
theorem w_ripe : about1.ripe theMethod args0 below0 = true := by decide +kernel
theorem w_running : about1.status = .running := rfl
set_option maxRecDepth 65536 in
theorem w_room : about1.hasRoom e0.platform room_1 = true :=
  launch0.hasRoom_least _ room_1 (by decide +kernel) (by decide +kernel) (by decide +kernel) (by decide +kernel) (by decide +kernel) (by decide +kernel)
theorem allAtoms_all (ts : List Jvm.Cond) (a : Array Jvm.Value) (st : Jvm.State) : (allAtoms ts).before a st = ts.all (fun c => c.before a st) := by
  induction ts with
  | nil => rfl
  | cons c t ih =>
    show (Jvm.Cond.and c (allAtoms t)).before a st = _
    rw [Jvm.Cond.before_and, ih, List.all_cons]
def words1 : List Jvm.Cond := Jvm.Cond.code x code maxLocals ret :: tables_1
/-- a 'code' word, met by the world's own term for the bytes: nothing is compared byte by byte -/
theorem code_word {y : MethodName} {bytes : ByteArray} {mx : Nat} {rt : Option FieldType} {a : Array Value} {s : State} {m : MethodId} {meth : Method} {c : Code} (h1 : s.methodNamed? y = some m) (h2 : s.vm.method? m = some meth) (h3 : meth.code = some c) (h4 : c.code = bytes)
    (h5 : (c.maxLocals == mx && c.exceptionTable.isEmpty && decide (c.maxStack ≤ mostOperands) && decide (meth.sig.returnType = rt) && !meth.locks && decide (parseMethodDescriptor y.desc = some meth.sig)) = true) : (Jvm.Cond.code y bytes mx rt).before a s = true := by
  simp only [Bool.and_eq_true, beq_iff_eq, Bool.not_eq_true', decide_eq_true_eq] at h5
  obtain ⟨⟨⟨⟨⟨g1, g2⟩, g3⟩, g4⟩, g5⟩, g6⟩ := h5
  simp [Cond.before, Cond.holds, Cond.value, h1, h2, h3, h4, g1, g2, g3, g4, g5, g6]
def isCode : Jvm.Cond → Bool
  | .code _ _ _ _ => true
  | _ => false
theorem all_split {L : List Jvm.Cond} {P : Jvm.Cond → Bool} (h1 : L.all (fun c => isCode c || P c) = true) (h2 : ∀ c ∈ L.filter isCode, P c = true) : L.all P = true := by
  refine List.all_eq_true.mpr fun c hc => ?_
  have h := List.all_eq_true.mp h1 c hc
  rcases Bool.eq_false_or_eq_true (isCode c) with hi | hi
  · exact h2 c (List.mem_filter.mpr ⟨hc, hi⟩)
  · simpa [hi] using h
set_option maxRecDepth 65536 in
theorem w_c0 : (Jvm.Cond.code x code maxLocals ret).before args0 about1 = true := code_word (m := ⟨1, 1⟩) (meth := k1m1) (c := k1c1) (by decide +kernel) rfl rfl rfl (by decide +kernel)
set_option maxRecDepth 65536 in
theorem w_c1 : (Jvm.Cond.code ({ cls := "java/lang/String", name := "length", desc := "()I" } : Jvm.MethodName) jdk_42_method_54_code (1 : Nat) (Option.some Jvm.ClassFile.FieldType.int)).before args0 about1 = true := code_word (m := ⟨7, 2⟩) (meth := k7m2) (c := k7c2) (by decide +kernel) rfl rfl rfl (by decide +kernel)
set_option maxRecDepth 65536 in
theorem w_c2 : (Jvm.Cond.code ({ cls := "java/lang/String", name := "coder", desc := "()B" } : Jvm.MethodName) jdk_42_method_152_code (1 : Nat) (Option.some Jvm.ClassFile.FieldType.byte)).before args0 about1 = true := code_word (m := ⟨7, 6⟩) (meth := k7m6) (c := k7c6) (by decide +kernel) rfl rfl rfl (by decide +kernel)
set_option maxRecDepth 65536 in
theorem w_c3 : (Jvm.Cond.code ({ cls := "com/example/contesta/contesta/rank/ModelNamedPinLaw", name := "make", desc := "(ILjava/lang/String;IJJ)Ljava/lang/String;" } : Jvm.MethodName) method_4_code (8 : Nat) (Option.some (Jvm.ClassFile.FieldType.object "java/lang/String"))).before args0 about1 = true := code_word (m := ⟨1, 3⟩) (meth := k1m3) (c := k1c3) (by decide +kernel) rfl rfl rfl (by decide +kernel)
set_option maxRecDepth 65536 in
theorem w_c4 : (Jvm.Cond.code ({ cls := "com/example/contesta/contesta/rank/ModelNamedPinLaw", name := "at", desc := "(Ljava/lang/String;IIJJ)C" } : Jvm.MethodName) method_3_code (9 : Nat) (Option.some Jvm.ClassFile.FieldType.char)).before args0 about1 = true := code_word (m := ⟨1, 2⟩) (meth := k1m2) (c := k1c2) (by decide +kernel) rfl rfl rfl (by decide +kernel)
set_option maxRecDepth 65536 in
theorem w_c5 : (Jvm.Cond.code ({ cls := "java/lang/String", name := "charAt", desc := "(I)C" } : Jvm.MethodName) jdk_42_method_56_code (2 : Nat) (Option.some Jvm.ClassFile.FieldType.char)).before args0 about1 = true := code_word (m := ⟨7, 3⟩) (meth := k7m3) (c := k7c3) (by decide +kernel) rfl rfl rfl (by decide +kernel)
set_option maxRecDepth 65536 in
theorem w_c6 : (Jvm.Cond.code ({ cls := "java/lang/String", name := "isLatin1", desc := "()Z" } : Jvm.MethodName) jdk_42_method_154_code (1 : Nat) (Option.some Jvm.ClassFile.FieldType.boolean)).before args0 about1 = true := code_word (m := ⟨7, 7⟩) (meth := k7m7) (c := k7c7) (by decide +kernel) rfl rfl rfl (by decide +kernel)
set_option maxRecDepth 65536 in
theorem w_c7 : (Jvm.Cond.code ({ cls := "java/lang/StringLatin1", name := "charAt", desc := "([BI)C" } : Jvm.MethodName) jdk_43_method_2_code (2 : Nat) (Option.some Jvm.ClassFile.FieldType.char)).before args0 about1 = true := code_word (m := ⟨8, 1⟩) (meth := k8m1) (c := k8c1) (by decide +kernel) rfl rfl rfl (by decide +kernel)
set_option maxRecDepth 65536 in
theorem w_c8 : (Jvm.Cond.code ({ cls := "java/lang/String", name := "checkIndex", desc := "(II)V" } : Jvm.MethodName) jdk_42_method_155_code (2 : Nat) (Option.none : Option Jvm.ClassFile.FieldType)).before args0 about1 = true := code_word (m := ⟨7, 8⟩) (meth := k7m8) (c := k7c8) (by decide +kernel) rfl rfl rfl (by decide +kernel)
set_option maxRecDepth 65536 in
theorem w_c9 : (Jvm.Cond.code ({ cls := "jdk/internal/util/Preconditions", name := "checkIndex", desc := "(IILjava/util/function/BiFunction;)I" } : Jvm.MethodName) jdk_41_method_11_code (3 : Nat) (Option.some Jvm.ClassFile.FieldType.int)).before args0 about1 = true := code_word (m := ⟨9, 1⟩) (meth := k9m1) (c := k9c1) (by decide +kernel) rfl rfl rfl (by decide +kernel)
set_option maxRecDepth 65536 in
theorem w_c10 : (Jvm.Cond.code ({ cls := "java/lang/String", name := "<init>", desc := "([C)V" } : Jvm.MethodName) jdk_42_method_3_code (2 : Nat) (Option.none : Option Jvm.ClassFile.FieldType)).before args0 about1 = true := code_word (m := ⟨7, 1⟩) (meth := k7m1) (c := k7c1) (by decide +kernel) rfl rfl rfl (by decide +kernel)
set_option maxRecDepth 65536 in
theorem w_c11 : (Jvm.Cond.code ({ cls := "java/lang/String", name := "<init>", desc := "([CIILjava/lang/Void;)V" } : Jvm.MethodName) jdk_42_method_149_code (6 : Nat) (Option.none : Option Jvm.ClassFile.FieldType)).before args0 about1 = true := code_word (m := ⟨7, 5⟩) (meth := k7m5) (c := k7c5) (by decide +kernel) rfl rfl rfl (by decide +kernel)
set_option maxRecDepth 65536 in
theorem w_c12 : (Jvm.Cond.code ({ cls := "java/lang/Object", name := "<init>", desc := "()V" } : Jvm.MethodName) object_method_1_code (1 : Nat) (Option.none : Option Jvm.ClassFile.FieldType)).before args0 about1 = true := code_word (m := ⟨0, 0⟩) (meth := k0m0) (c := k0c0) (by decide +kernel) rfl rfl rfl (by decide +kernel)
set_option maxRecDepth 65536 in
theorem w_c13 : (Jvm.Cond.code ({ cls := "java/lang/StringUTF16", name := "compress", desc := "([CII)[B" } : Jvm.MethodName) jdk_52_method_16_code (6 : Nat) (Option.some (Jvm.ClassFile.FieldType.array Jvm.ClassFile.FieldType.byte))).before args0 about1 = true := code_word (m := ⟨10, 2⟩) (meth := k10m2) (c := k10c2) (by decide +kernel) rfl rfl rfl (by decide +kernel)
set_option maxRecDepth 65536 in
theorem w_c14 : (Jvm.Cond.code ({ cls := "java/lang/StringUTF16", name := "compress", desc := "([CI[BII)I" } : Jvm.MethodName) jdk_52_method_21_code (7 : Nat) (Option.some Jvm.ClassFile.FieldType.int)).before args0 about1 = true := code_word (m := ⟨10, 3⟩) (meth := k10m3) (c := k10c3) (by decide +kernel) rfl rfl rfl (by decide +kernel)
set_option maxRecDepth 65536 in
theorem w_c15 : (Jvm.Cond.code ({ cls := "java/lang/StringUTF16", name := "coderFromArrayLen", desc := "([BI)B" } : Jvm.MethodName) jdk_52_method_15_code (2 : Nat) (Option.some Jvm.ClassFile.FieldType.byte)).before args0 about1 = true := code_word (m := ⟨10, 1⟩) (meth := k10m1) (c := k10c1) (by decide +kernel) rfl rfl rfl (by decide +kernel)
set_option maxRecDepth 65536 in
theorem w_c16 : (Jvm.Cond.code ({ cls := "java/lang/String", name := "equals", desc := "(Ljava/lang/Object;)Z" } : Jvm.MethodName) jdk_42_method_66_code (3 : Nat) (Option.some Jvm.ClassFile.FieldType.boolean)).before args0 about1 = true := code_word (m := ⟨7, 4⟩) (meth := k7m4) (c := k7c4) (by decide +kernel) rfl rfl rfl (by decide +kernel)
set_option maxRecDepth 65536 in
theorem w_c17 : (Jvm.Cond.code ({ cls := "java/lang/StringLatin1", name := "equals", desc := "([B[B)Z" } : Jvm.MethodName) jdk_43_method_13_code (3 : Nat) (Option.some Jvm.ClassFile.FieldType.boolean)).before args0 about1 = true := code_word (m := ⟨8, 2⟩) (meth := k8m2) (c := k8c2) (by decide +kernel) rfl rfl rfl (by decide +kernel)
set_option maxRecDepth 65536 in
theorem w_c18 : (Jvm.Cond.code ({ cls := "com/example/contesta/contesta/rank/Model", name := "named", desc := "(Ljava/lang/String;)Ljava/util/Optional;" } : Jvm.MethodName) prog_31_method_6_code (6 : Nat) (Option.some (Jvm.ClassFile.FieldType.object "java/util/Optional"))).before args0 about1 = true := code_word (m := ⟨12, 1⟩) (meth := k12m1) (c := k12c1) (by decide +kernel) rfl rfl rfl (by decide +kernel)
set_option maxRecDepth 65536 in
theorem w_c19 : (Jvm.Cond.code ({ cls := "java/util/Optional", name := "empty", desc := "()Ljava/util/Optional;" } : Jvm.MethodName) jdk_32_method_1_code (1 : Nat) (Option.some (Jvm.ClassFile.FieldType.object "java/util/Optional"))).before args0 about1 = true := code_word (m := ⟨13, 0⟩) (meth := k13m0) (c := k13c0) (by decide +kernel) rfl rfl rfl (by decide +kernel)
set_option maxRecDepth 65536 in
theorem w_c20 : (Jvm.Cond.code ({ cls := "com/example/contesta/contesta/rank/Model", name := "values", desc := "()[Lcom/example/contesta/contesta/rank/Model;" } : Jvm.MethodName) prog_31_method_1_code (0 : Nat) (Option.some (Jvm.ClassFile.FieldType.array (Jvm.ClassFile.FieldType.object "com/example/contesta/contesta/rank/Model")))).before args0 about1 = true := code_word (m := ⟨12, 0⟩) (meth := k12m0) (c := k12c0) (by decide +kernel) rfl rfl rfl (by decide +kernel)
set_option maxRecDepth 65536 in
theorem w_c21 : (Jvm.Cond.code ({ cls := "java/util/Optional", name := "of", desc := "(Ljava/lang/Object;)Ljava/util/Optional;" } : Jvm.MethodName) jdk_32_method_3_code (1 : Nat) (Option.some (Jvm.ClassFile.FieldType.object "java/util/Optional"))).before args0 about1 = true := code_word (m := ⟨13, 2⟩) (meth := k13m2) (c := k13c2) (by decide +kernel) rfl rfl rfl (by decide +kernel)
set_option maxRecDepth 65536 in
theorem w_c22 : (Jvm.Cond.code ({ cls := "java/util/Objects", name := "requireNonNull", desc := "(Ljava/lang/Object;)Ljava/lang/Object;" } : Jvm.MethodName) jdk_31_method_10_code (1 : Nat) (Option.some (Jvm.ClassFile.FieldType.object "java/lang/Object"))).before args0 about1 = true := code_word (m := ⟨15, 1⟩) (meth := k15m1) (c := k15c1) (by decide +kernel) rfl rfl rfl (by decide +kernel)
set_option maxRecDepth 65536 in
theorem w_c23 : (Jvm.Cond.code ({ cls := "java/util/Optional", name := "<init>", desc := "(Ljava/lang/Object;)V" } : Jvm.MethodName) jdk_32_method_2_code (2 : Nat) (Option.none : Option Jvm.ClassFile.FieldType)).before args0 about1 = true := code_word (m := ⟨13, 1⟩) (meth := k13m1) (c := k13c1) (by decide +kernel) rfl rfl rfl (by decide +kernel)
set_option maxRecDepth 65536 in
theorem w_c24 : (Jvm.Cond.code ({ cls := "java/util/Optional", name := "orElse", desc := "(Ljava/lang/Object;)Ljava/lang/Object;" } : Jvm.MethodName) jdk_32_method_15_code (2 : Nat) (Option.some (Jvm.ClassFile.FieldType.object "java/lang/Object"))).before args0 about1 = true := code_word (m := ⟨13, 3⟩) (meth := k13m3) (c := k13c3) (by decide +kernel) rfl rfl rfl (by decide +kernel)
def codes1 : List Jvm.Cond := [Jvm.Cond.code x code maxLocals ret, Jvm.Cond.code ({ cls := "java/lang/String", name := "length", desc := "()I" } : Jvm.MethodName) jdk_42_method_54_code (1 : Nat) (Option.some Jvm.ClassFile.FieldType.int), Jvm.Cond.code ({ cls := "java/lang/String", name := "coder", desc := "()B" } : Jvm.MethodName) jdk_42_method_152_code (1 : Nat) (Option.some Jvm.ClassFile.FieldType.byte), Jvm.Cond.code ({ cls := "com/example/contesta/contesta/rank/ModelNamedPinLaw", name := "make", desc := "(ILjava/lang/String;IJJ)Ljava/lang/String;" } : Jvm.MethodName) method_4_code (8 : Nat) (Option.some (Jvm.ClassFile.FieldType.object "java/lang/String")), Jvm.Cond.code ({ cls := "com/example/contesta/contesta/rank/ModelNamedPinLaw", name := "at", desc := "(Ljava/lang/String;IIJJ)C" } : Jvm.MethodName) method_3_code (9 : Nat) (Option.some Jvm.ClassFile.FieldType.char), Jvm.Cond.code ({ cls := "java/lang/String", name := "charAt", desc := "(I)C" } : Jvm.MethodName) jdk_42_method_56_code (2 : Nat) (Option.some Jvm.ClassFile.FieldType.char), Jvm.Cond.code ({ cls := "java/lang/String", name := "isLatin1", desc := "()Z" } : Jvm.MethodName) jdk_42_method_154_code (1 : Nat) (Option.some Jvm.ClassFile.FieldType.boolean), Jvm.Cond.code ({ cls := "java/lang/StringLatin1", name := "charAt", desc := "([BI)C" } : Jvm.MethodName) jdk_43_method_2_code (2 : Nat) (Option.some Jvm.ClassFile.FieldType.char), Jvm.Cond.code ({ cls := "java/lang/String", name := "checkIndex", desc := "(II)V" } : Jvm.MethodName) jdk_42_method_155_code (2 : Nat) (Option.none : Option Jvm.ClassFile.FieldType), Jvm.Cond.code ({ cls := "jdk/internal/util/Preconditions", name := "checkIndex", desc := "(IILjava/util/function/BiFunction;)I" } : Jvm.MethodName) jdk_41_method_11_code (3 : Nat) (Option.some Jvm.ClassFile.FieldType.int), Jvm.Cond.code ({ cls := "java/lang/String", name := "<init>", desc := "([C)V" } : Jvm.MethodName) jdk_42_method_3_code (2 : Nat) (Option.none : Option Jvm.ClassFile.FieldType), Jvm.Cond.code ({ cls := "java/lang/String", name := "<init>", desc := "([CIILjava/lang/Void;)V" } : Jvm.MethodName) jdk_42_method_149_code (6 : Nat) (Option.none : Option Jvm.ClassFile.FieldType), Jvm.Cond.code ({ cls := "java/lang/Object", name := "<init>", desc := "()V" } : Jvm.MethodName) object_method_1_code (1 : Nat) (Option.none : Option Jvm.ClassFile.FieldType), Jvm.Cond.code ({ cls := "java/lang/StringUTF16", name := "compress", desc := "([CII)[B" } : Jvm.MethodName) jdk_52_method_16_code (6 : Nat) (Option.some (Jvm.ClassFile.FieldType.array Jvm.ClassFile.FieldType.byte)), Jvm.Cond.code ({ cls := "java/lang/StringUTF16", name := "compress", desc := "([CI[BII)I" } : Jvm.MethodName) jdk_52_method_21_code (7 : Nat) (Option.some Jvm.ClassFile.FieldType.int), Jvm.Cond.code ({ cls := "java/lang/StringUTF16", name := "coderFromArrayLen", desc := "([BI)B" } : Jvm.MethodName) jdk_52_method_15_code (2 : Nat) (Option.some Jvm.ClassFile.FieldType.byte), Jvm.Cond.code ({ cls := "java/lang/String", name := "equals", desc := "(Ljava/lang/Object;)Z" } : Jvm.MethodName) jdk_42_method_66_code (3 : Nat) (Option.some Jvm.ClassFile.FieldType.boolean), Jvm.Cond.code ({ cls := "java/lang/StringLatin1", name := "equals", desc := "([B[B)Z" } : Jvm.MethodName) jdk_43_method_13_code (3 : Nat) (Option.some Jvm.ClassFile.FieldType.boolean), Jvm.Cond.code ({ cls := "com/example/contesta/contesta/rank/Model", name := "named", desc := "(Ljava/lang/String;)Ljava/util/Optional;" } : Jvm.MethodName) prog_31_method_6_code (6 : Nat) (Option.some (Jvm.ClassFile.FieldType.object "java/util/Optional")), Jvm.Cond.code ({ cls := "java/util/Optional", name := "empty", desc := "()Ljava/util/Optional;" } : Jvm.MethodName) jdk_32_method_1_code (1 : Nat) (Option.some (Jvm.ClassFile.FieldType.object "java/util/Optional")), Jvm.Cond.code ({ cls := "com/example/contesta/contesta/rank/Model", name := "values", desc := "()[Lcom/example/contesta/contesta/rank/Model;" } : Jvm.MethodName) prog_31_method_1_code (0 : Nat) (Option.some (Jvm.ClassFile.FieldType.array (Jvm.ClassFile.FieldType.object "com/example/contesta/contesta/rank/Model"))), Jvm.Cond.code ({ cls := "java/util/Optional", name := "of", desc := "(Ljava/lang/Object;)Ljava/util/Optional;" } : Jvm.MethodName) jdk_32_method_3_code (1 : Nat) (Option.some (Jvm.ClassFile.FieldType.object "java/util/Optional")), Jvm.Cond.code ({ cls := "java/util/Objects", name := "requireNonNull", desc := "(Ljava/lang/Object;)Ljava/lang/Object;" } : Jvm.MethodName) jdk_31_method_10_code (1 : Nat) (Option.some (Jvm.ClassFile.FieldType.object "java/lang/Object")), Jvm.Cond.code ({ cls := "java/util/Optional", name := "<init>", desc := "(Ljava/lang/Object;)V" } : Jvm.MethodName) jdk_32_method_2_code (2 : Nat) (Option.none : Option Jvm.ClassFile.FieldType), Jvm.Cond.code ({ cls := "java/util/Optional", name := "orElse", desc := "(Ljava/lang/Object;)Ljava/lang/Object;" } : Jvm.MethodName) jdk_32_method_15_code (2 : Nat) (Option.some (Jvm.ClassFile.FieldType.object "java/lang/Object"))]
set_option maxRecDepth 65536 in
theorem codes_eq : words1.filter isCode = codes1 := rfl
theorem w_codes : ∀ c ∈ words1.filter isCode, c.before args0 about1 = true := by
  rw [codes_eq]
  intro c hc
  simp only [codes1, List.mem_cons, List.not_mem_nil, or_false] at hc
  rcases hc with rfl | rfl | rfl | rfl | rfl | rfl | rfl | rfl | rfl | rfl | rfl | rfl | rfl | rfl | rfl | rfl | rfl | rfl | rfl | rfl | rfl | rfl | rfl | rfl | rfl
  · exact w_c0
  · exact w_c1
  · exact w_c2
  · exact w_c3
  · exact w_c4
  · exact w_c5
  · exact w_c6
  · exact w_c7
  · exact w_c8
  · exact w_c9
  · exact w_c10
  · exact w_c11
  · exact w_c12
  · exact w_c13
  · exact w_c14
  · exact w_c15
  · exact w_c16
  · exact w_c17
  · exact w_c18
  · exact w_c19
  · exact w_c20
  · exact w_c21
  · exact w_c22
  · exact w_c23
  · exact w_c24
set_option maxRecDepth 65536 in
theorem w_t1 : (words1.take 24).all (fun c => isCode c || c.before args0 about1) = true := by decide +kernel
set_option maxRecDepth 65536 in
theorem w_t2 : ((words1.drop 24).take 24).all (fun c => isCode c || c.before args0 about1) = true := by decide +kernel
set_option maxRecDepth 65536 in
theorem w_t3 : (((words1.drop 24).drop 24).take 24).all (fun c => isCode c || c.before args0 about1) = true := by decide +kernel
set_option maxRecDepth 65536 in
theorem w_t4 : ((((words1.drop 24).drop 24).drop 24).take 24).all (fun c => isCode c || c.before args0 about1) = true := by decide +kernel
set_option maxRecDepth 65536 in
theorem w_t5 : (((((words1.drop 24).drop 24).drop 24).drop 24).take 24).all (fun c => isCode c || c.before args0 about1) = true := by decide +kernel
set_option maxRecDepth 65536 in
theorem w_t6 : ((((((words1.drop 24).drop 24).drop 24).drop 24).drop 24).take 24).all (fun c => isCode c || c.before args0 about1) = true := by decide +kernel
set_option maxRecDepth 65536 in
theorem w_t7 : ((((((words1.drop 24).drop 24).drop 24).drop 24).drop 24).drop 24).all (fun c => isCode c || c.before args0 about1) = true := by decide +kernel
theorem w_tables : (allAtoms (Jvm.Cond.code x code maxLocals ret :: tables_1)).before args0 about1 = true := by
  rw [allAtoms_all]
  show words1.all (fun c => c.before args0 about1) = true
  refine all_split ?_ w_codes
  rw [← List.take_append_drop 24 words1, List.all_append, w_t1, ← List.take_append_drop 24 (words1.drop 24), List.all_append, w_t2, ← List.take_append_drop 24 ((words1.drop 24).drop 24), List.all_append, w_t3, ← List.take_append_drop 24 (((words1.drop 24).drop 24).drop 24), List.all_append, w_t4, ← List.take_append_drop 24 ((((words1.drop 24).drop 24).drop 24).drop 24), List.all_append, w_t5, ← List.take_append_drop 24 (((((words1.drop 24).drop 24).drop 24).drop 24).drop 24), List.all_append, w_t6, w_t7]
  rfl
set_option maxRecDepth 65536 in
theorem w_rest : rest_1_c.before args0 about1 = true := by decide +kernel
set_option maxRecDepth 65536 in
theorem w_case : (Jvm.Cond.and given_1 narrow_1).before args0 about1 = true := by decide +kernel
set_option maxRecDepth 65536 in
theorem w_consts : constsHeld consts_1 about1 := Jvm.Lit.constsHeldB_iff.mp (by decide +kernel)
theorem w_applies : (headSpec (Jvm.Cond.code x code maxLocals ret :: tables_1) room_1).applies x e0.platform about1 = true :=
  (Spec.applies_iff w_frames).mpr ⟨w_running, w_runnable, w_alone, w_named, w_hears, w_ripe, w_room, w_tables⟩
theorem atStart : AtStart classFile x code maxLocals ret World_1 tables_1 room_1 Calls_1 rest_1 Pre_1 launch0 p0 e0 about1 theMethod args0 below0 :=
  ⟨lists_1, trivial, launch0.admits_env _ _ _, launch0.least_env, fairChoices_fair.cas, fairChoices_fair.clock, w_frames, w_args, w_heap, w_applies, ⟨w_consts, trivial⟩, w_rest, w_case⟩
end start1
theorem witness_1 : WitnessClaimed_1 := ⟨start1.p0, start1.e0, start1.about1, start1.theMethod, start1.args0, start1.below0, start1.atStart⟩
end Jvm.Pilot.@@N@@
