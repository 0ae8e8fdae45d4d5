import JvmDerived
import JvmDerived.Pilot.@@N@@Statement
import JvmDerived.Pilot.@@N@@Code
set_option linter.unusedVariables false
set_option linter.unusedSimpArgs false
/- laws to paste: Road.backV (cut by pick.py; bodies as the Statement names them) -/
namespace Jvm.Pilot.@@N@@
namespace StrChars
open Jvm Sem ClassFile Op Lib Jvm.Stand Jvm.Free.XT Jvm.Free.ALB Jvm.Free.JM Jvm.Free
open Jvm.Lib.Cold (StaticIs)
/-- a char array whose places are chars -/
def Ch (a : Addr) (A : Cell) (U : State) : Prop := Arr .char a A U ∧ Typed .char A
theorem Ch.mv {a : Addr} {A : Cell} {U U' : State} (h : Ch a A U) (hal : U.vm.Alike U'.vm) (hh : U'.heap = U.heap) : Ch a A U' := ⟨h.1.mv hal hh, h.2⟩
theorem Ch.keep {a : Addr} {A : Cell} {U U' : State} (h : Ch a A U) (hal : U.vm.Alike U'.vm) (hk : U'.heap[a]? = some A) : Ch a A U' := ⟨h.1.keep hal hk, h.2⟩
/-- what place i of a char[]'s cell holds -/
def cv (A : Cell) (i : Nat) : Int32 := match A.slots[i]? with | some (.int x) => x | _ => 0
theorem Ch.get {a : Addr} {A : Cell} {U : State} (h : Ch a A U) {i : Nat} (hi : i < A.slots.size) : A.slots[i]? = some (.int (cv A i)) := by
  have e := Array.getElem?_eq_getElem hi
  have f := h.2 i _ e
  unfold cv; rw [e]
  generalize A.slots[i] = v at f
  cases v <;> simp [fits] at f ⊢
/-- the byte that i2b leaves of a char -/
def lo8 (x : Int32) : Int32 := x.toInt8.toInt32
theorem fits_lo8 (y : Int32) : fits .byte (.int (lo8 y)) = true := by
  have h1 := y.toInt8.le_toInt
  have h2 := y.toInt8.toInt_lt
  simp only [lo8, fits, Bool.and_eq_true, decide_eq_true_eq, Int32.le_iff_toInt_le, Int8.toInt_toInt32, show (-128 : Int32).toInt = -128 from by decide, show (127 : Int32).toInt = 127 from by decide]
  omega
/-- A' is A but that each place j of lo .. hi - 1 holds f j -/
def Laid (A A' : Cell) (lo hi : Nat) (f : Nat → Value) : Prop := A'.cls = A.cls ∧ A'.vm = A.vm ∧ A'.slots.size = A.slots.size ∧ ∀ i, A'.slots[i]? = if lo ≤ i ∧ i < hi then some (f i) else A.slots[i]?
theorem Laid.zero (A : Cell) (lo : Nat) (f : Nat → Value) : Laid A A lo (lo + 0) f := ⟨rfl, rfl, rfl, fun i => by rw [if_neg (by omega)]⟩
theorem Laid.step {A Ak : Cell} {lo k : Nat} {f : Nat → Value} {v : Value} (h : Laid A Ak lo k f) (hlo : lo ≤ k) (hk : k < Ak.slots.size) (hv : v = f k) : Laid A (Ak.setSlot k v) lo (k + 1) f := by
  refine ⟨h.1, h.2.1, by simpa [Cell.setSlot] using h.2.2.1, fun i => ?_⟩
  by_cases e : k = i
  · subst e; rw [Cell.slots_setSlot_self v hk, if_pos (by omega), hv]
  · rw [Cell.slots_setSlot_ne v e, h.2.2.2 i]
    by_cases q : lo ≤ i ∧ i < k
    · rw [if_pos q, if_pos (by omega)]
    · rw [if_neg q, if_neg (by omega)]
def U16 : String := "java/lang/StringUTF16"
namespace Cmp5
def yN : MethodName := ⟨"java/lang/StringUTF16", "compress", "([CI[BII)I"⟩
abbrev yB : ByteArray := jdk_52_method_21_code
theorem d0 : decode yB 0 = .ok (.iconst 0, 1) := by decide +kernel
theorem d1 : decode yB 1 = .ok (.istore 5, 2) := by decide +kernel
theorem d3 : decode yB 3 = .ok (.iload 5, 2) := by decide +kernel
theorem d5 : decode yB 5 = .ok (.iload 4, 2) := by decide +kernel
theorem d7 : decode yB 7 = .ok (.if_icmp (.ge) 37, 3) := by decide +kernel
theorem d10 : decode yB 10 = .ok (.aload_n 0, 1) := by decide +kernel
theorem d11 : decode yB 11 = .ok (.iload_n 1, 1) := by decide +kernel
theorem d12 : decode yB 12 = .ok (.caload, 1) := by decide +kernel
theorem d13 : decode yB 13 = .ok (.istore 6, 2) := by decide +kernel
theorem d15 : decode yB 15 = .ok (.iload 6, 2) := by decide +kernel
theorem d17 : decode yB 17 = .ok (.sipush 255, 3) := by decide +kernel
theorem d20 : decode yB 20 = .ok (.if_icmp (.le) 6, 3) := by decide +kernel
theorem d26 : decode yB 26 = .ok (.aload_n 2, 1) := by decide +kernel
theorem d27 : decode yB 27 = .ok (.iload_n 3, 1) := by decide +kernel
theorem d28 : decode yB 28 = .ok (.iload 6, 2) := by decide +kernel
theorem d30 : decode yB 30 = .ok (.i2b, 1) := by decide +kernel
theorem d31 : decode yB 31 = .ok (.bastore, 1) := by decide +kernel
theorem d32 : decode yB 32 = .ok (.iinc 1 1, 3) := by decide +kernel
theorem d35 : decode yB 35 = .ok (.iinc 3 1, 3) := by decide +kernel
theorem d38 : decode yB 38 = .ok (.iinc 5 1, 3) := by decide +kernel
theorem d41 : decode yB 41 = .ok (.goto (-38), 3) := by decide +kernel
theorem d44 : decode yB 44 = .ok (.iload 4, 2) := by decide +kernel
theorem d46 : decode yB 46 = .ok (.ireturn, 1) := by decide +kernel
def site : List Cond := []
def tab : Cond := tabOf yN yB 7 (some .int) site
def P (b : Addr) (A : Cell) (d : Addr) (B : Cell) (o q len : Nat) (args : Array Value) (s : State) : Prop := args = #[.ref b, .int (Int32.ofNat o), .ref d, .int (Int32.ofNat q), .int (Int32.ofNat len)] ∧ Ch b A s ∧ Arr .byte d B s ∧ b ≠ d ∧ o + len ≤ A.slots.size ∧ q + len ≤ B.slots.size ∧ ∀ i, i < len → ¬ 255 < cv A (o + i)
def E (b : Addr) (A : Cell) (d : Addr) (B : Cell) (o q len : Nat) (r : Option Value) (s u : State) : Prop := r = some (.int (Int32.ofNat len)) ∧ ∃ B', Put d B' s u ∧ Laid B B' q (q + len) (fun j => Value.int (lo8 (cv A (o + (j - q)))))
/-- no char of the range above 255: len; the places written hold each char's low byte -/
theorem law (l : Launch) (b : Addr) (A : Cell) (d : Addr) (B : Cell) (o q len : Nat) : Law l yN 5 5 0 0 yB 7 (some .int) site (P b A d B o q len) (E b A d B o q len) (copyLocs d q len) 0 0 := by
  refine Law.of_walk (plainFor_of_name (by decide +kernel)) (by decide +kernel) (by decide +kernel) (by decide) (fun _ _ h => by rw [h.1]; rfl) (fun _ U U' hal hh h => ⟨h.1, h.2.1.mv hal hh, h.2.2.1.mv hal hh, h.2.2.2⟩) (fun r U U' V V' h1 hal h2 h => ⟨h.1, h.2.elim fun B' q => ⟨B', q.1.mv h1 h2, q.2⟩⟩) ?_
  intro p e s m args below meth c s₁ X0 hexec hbytes hml hret hlk hnm hown hh0 W hP
  obtain ⟨rfl, hA, hB, hne, l1, l2, hp⟩ := hP
  have c1 : Steps p.tables e below (s₁.setTop (entryFrame m #[.ref b, .int (Int32.ofNat o), .ref d, .int (Int32.ofNat q), .int (Int32.ofNat len)] 7)) (s₁.setTop (mkF m 0 #[.val (.ref b), .val (.int (Int32.ofNat o)), .val (.ref d), .val (.int (Int32.ofNat q)), .val (.int (Int32.ofNat len)), .unset, .unset] [])) := entry rfl
  have hA0 := hA.1.mv X0.warmed.alike hh0
  have hB0 := hB.mv X0.warmed.alike hh0
  have a31 := hA.1.2.2.2
  have c2 : Steps p.tables e below (s₁.setTop (entryFrame m #[.ref b, .int (Int32.ofNat o), .ref d, .int (Int32.ofNat q), .int (Int32.ofNat len)] 7)) (s₁.setTop (mkF m 3 #[.val (.ref b), .val (.int (Int32.ofNat o)), .val (.ref d), .val (.int (Int32.ofNat q)), .val (.int (Int32.ofNat len)), .val (.int 0), .unset] [])) := c1.trans (by
    refine iconstV X0.here hexec rfl 0 (hb hbytes d0) (by decide) ?_
    refine XS.istore X0.here hexec rfl (hb hbytes d1) rfl rfl ?_
    exact Steps.refl _)
  have loop : ∀ (r i : Nat), i + r = len → ∀ (z : Slot), (z = .unset ∨ ∃ w, z = .val w ∧ w.category = 1) → ∀ (Tl : State) (Bk : Cell), Stand p l e { frames := 0, locals := 0, cells := 0, slots := 0 } s m #[.ref b, .int (Int32.ofNat o), .ref d, .int (Int32.ofNat q), .int (Int32.ofNat len)] below meth c Tl ([] ++ copyLocs d q i) 0 0 → Put d Bk s₁ Tl → Laid B Bk q (q + i) (fun j => Value.int (lo8 (cv A (o + (j - q))))) →
      Steps p.tables e below (s₁.setTop (entryFrame m #[.ref b, .int (Int32.ofNat o), .ref d, .int (Int32.ofNat q), .int (Int32.ofNat len)] 7)) (Tl.setTop (mkF m 3 #[.val (.ref b), .val (.int (Int32.ofNat (o + i))), .val (.ref d), .val (.int (Int32.ofNat (q + i))), .val (.int (Int32.ofNat len)), .val (.int (Int32.ofNat i)), z] [])) → ∃ (T' : State) (B' : Cell) (z' : Slot), Stand p l e { frames := 0, locals := 0, cells := 0, slots := 0 } s m #[.ref b, .int (Int32.ofNat o), .ref d, .int (Int32.ofNat q), .int (Int32.ofNat len)] below meth c T' ([] ++ copyLocs d q len) 0 0 ∧ Put d B' s₁ T' ∧ Laid B B' q (q + len) (fun j => Value.int (lo8 (cv A (o + (j - q))))) ∧
      Steps p.tables e below (s₁.setTop (entryFrame m #[.ref b, .int (Int32.ofNat o), .ref d, .int (Int32.ofNat q), .int (Int32.ofNat len)] 7)) (T'.setTop (mkF m 3 #[.val (.ref b), .val (.int (Int32.ofNat (o + len))), .val (.ref d), .val (.int (Int32.ofNat (q + len))), .val (.int (Int32.ofNat len)), .val (.int (Int32.ofNat len)), z'] [])) := by
    intro r
    induction r with
    | zero =>
      intro i hi z hz Tl Bk Xl pl fl cl
      have hil : i = len := by omega
      rw [hil] at Xl fl cl
      exact ⟨Tl, Bk, z, Xl, pl, fl, cl⟩
    | succ r ih =>
      intro i hi z hz Tl Bk Xl pl fl cl
      have all := X0.warmed.alike.symm.trans Xl.warmed.alike
      have hAl := hA0.keep all (pl.other hne hA0.1)
      have hBk := hB0.like all pl.1 fl.1 fl.2.1 fl.2.2.1
      have hlt : q + i < Bk.slots.size := by rw [fl.2.2.1]; omega
      have c3 : Steps p.tables e below (s₁.setTop (entryFrame m #[.ref b, .int (Int32.ofNat o), .ref d, .int (Int32.ofNat q), .int (Int32.ofNat len)] 7)) (Tl.setTop (mkF m 12 #[.val (.ref b), .val (.int (Int32.ofNat (o + i))), .val (.ref d), .val (.int (Int32.ofNat (q + i))), .val (.int (Int32.ofNat len)), .val (.int (Int32.ofNat i)), z] [.int (Int32.ofNat (o + i)), .ref b])) := cl.trans (by
        refine XS.iload Xl.here hexec rfl (hb hbytes d3) rfl ?_
        refine XS.iload Xl.here hexec rfl (hb hbytes d5) rfl ?_
        refine XS.icmpNo Xl.here hexec rfl (hb hbytes d7) rfl (ii_ge_f (lt32 (by omega) (by omega))) ?_
        refine XS.aloadN Xl.here hexec rfl (hb hbytes d10) rfl rfl ?_
        refine XS.iloadN Xl.here hexec rfl (hb hbytes d11) rfl ?_
        exact Steps.refl _)
      have c4 : Steps p.tables e below (s₁.setTop (entryFrame m #[.ref b, .int (Int32.ofNat o), .ref d, .int (Int32.ofNat q), .int (Int32.ofNat len)] 7)) (Tl.setTop (mkF m 13 #[.val (.ref b), .val (.int (Int32.ofNat (o + i))), .val (.ref d), .val (.int (Int32.ofNat (q + i))), .val (.int (Int32.ofNat len)), .val (.int (Int32.ofNat i)), z] [.int (cv A (o + i))])) := c3.trans (by
        refine Xl.aget hexec hAl rfl (hA.get (i := o + i) (by omega)) rfl rfl (hb hbytes d12) ?_
        exact Steps.refl _)
      have c5 : Steps p.tables e below (s₁.setTop (entryFrame m #[.ref b, .int (Int32.ofNat o), .ref d, .int (Int32.ofNat q), .int (Int32.ofNat len)] 7)) (Tl.setTop (mkF m 15 #[.val (.ref b), .val (.int (Int32.ofNat (o + i))), .val (.ref d), .val (.int (Int32.ofNat (q + i))), .val (.int (Int32.ofNat len)), .val (.int (Int32.ofNat i)), .val (.int (cv A (o + i)))] [])) := c4.trans (by
        refine XS.istoreS Xl.here hexec rfl (hb hbytes d13) rfl rfl hz ?_
        exact Steps.refl _)
      have c6 : Steps p.tables e below (s₁.setTop (entryFrame m #[.ref b, .int (Int32.ofNat o), .ref d, .int (Int32.ofNat q), .int (Int32.ofNat len)] 7)) (Tl.setTop (mkF m 31 #[.val (.ref b), .val (.int (Int32.ofNat (o + i))), .val (.ref d), .val (.int (Int32.ofNat (q + i))), .val (.int (Int32.ofNat len)), .val (.int (Int32.ofNat i)), .val (.int (cv A (o + i)))] [.int (lo8 (cv A (o + i))), .int (Int32.ofNat (q + i)), .ref d])) := c5.trans (by
        refine XS.iload Xl.here hexec rfl (hb hbytes d15) rfl ?_
        refine sipushV Xl.here hexec rfl 255 (hb hbytes d17) (by decide) ?_
        refine XS.icmpYes Xl.here hexec rfl (pc0 := 20) rfl (hb hbytes d20) rfl (ii_le_t (hp i (by omega))) (by decide) rfl ?_
        refine XS.aloadN Xl.here hexec rfl (hb hbytes d26) rfl rfl ?_
        refine XS.iloadN Xl.here hexec rfl (hb hbytes d27) rfl ?_
        refine XS.iload Xl.here hexec rfl (hb hbytes d28) rfl ?_
        refine i2b Xl.here hexec rfl (hb hbytes d30) rfl ?_
        exact Steps.refl _)
      obtain ⟨T7, X7, p7, st7⟩ := Xl.aput hexec hBk rfl hlt rfl (fits_lo8 (cv A (o + i))) (g := (mkF m 31 #[.val (.ref b), .val (.int (Int32.ofNat (o + i))), .val (.ref d), .val (.int (Int32.ofNat (q + i))), .val (.int (Int32.ofNat len)), .val (.int (Int32.ofNat i)), .val (.int (cv A (o + i)))] [.int (lo8 (cv A (o + i))), .int (Int32.ofNat (q + i)), .ref d])) rfl (rest := []) rfl (hb hbytes d31)
      have c8 : Steps p.tables e below (s₁.setTop (entryFrame m #[.ref b, .int (Int32.ofNat o), .ref d, .int (Int32.ofNat q), .int (Int32.ofNat len)] 7)) (T7.setTop (mkF m 32 #[.val (.ref b), .val (.int (Int32.ofNat (o + i))), .val (.ref d), .val (.int (Int32.ofNat (q + i))), .val (.int (Int32.ofNat len)), .val (.int (Int32.ofNat i)), .val (.int (cv A (o + i)))] [])) := c6.trans (st7 _ (Steps.refl _))
      have c9 : Steps p.tables e below (s₁.setTop (entryFrame m #[.ref b, .int (Int32.ofNat o), .ref d, .int (Int32.ofNat q), .int (Int32.ofNat len)] 7)) (T7.setTop (mkF m 3 #[.val (.ref b), .val (.int (Int32.ofNat (o + i) + 1)), .val (.ref d), .val (.int (Int32.ofNat (q + i) + 1)), .val (.int (Int32.ofNat len)), .val (.int (Int32.ofNat i + 1)), .val (.int (cv A (o + i)))] [])) := c8.trans (by
        refine iincV X7.here hexec rfl 1 (hb hbytes d32) (by decide) rfl rfl ?_
        refine iincV X7.here hexec rfl 1 (hb hbytes d35) (by decide) rfl rfl ?_
        refine iincV X7.here hexec rfl 1 (hb hbytes d38) (by decide) rfl rfl ?_
        refine XS.goto X7.here hexec rfl (pc0 := 41) rfl (hb hbytes d41) (by decide) rfl ?_
        exact Steps.refl _)
      have c10 : Steps p.tables e below (s₁.setTop (entryFrame m #[.ref b, .int (Int32.ofNat o), .ref d, .int (Int32.ofNat q), .int (Int32.ofNat len)] 7)) (T7.setTop (mkF m 3 #[.val (.ref b), .val (.int (Int32.ofNat (o + (i + 1)))), .val (.ref d), .val (.int (Int32.ofNat (q + (i + 1)))), .val (.int (Int32.ofNat len)), .val (.int (Int32.ofNat (i + 1))), .val (.int (cv A (o + i)))] [])) := by
        have := c9
        rw [succ32, succ32, succ32] at this
        exact this
      exact ih (i + 1) (by omega) _ (Or.inr ⟨_, rfl, rfl⟩) T7 _ (by rw [copyLocs_step, ← List.append_assoc]; exact X7) (pl.trans p7) (fl.step (by omega) hlt (by simp)) c10
  obtain ⟨T9, B9, z9, X9, p9, f9, g9⟩ := loop len 0 (by omega) .unset (Or.inl rfl) s₁ B (by simpa [copyLocs] using X0) ⟨hB0.1, fun _ _ => rfl, rfl⟩ (Laid.zero _ _ _) c2
  have c11 : Steps p.tables e below (s₁.setTop (entryFrame m #[.ref b, .int (Int32.ofNat o), .ref d, .int (Int32.ofNat q), .int (Int32.ofNat len)] 7)) (T9.setTop (mkF m 46 #[.val (.ref b), .val (.int (Int32.ofNat (o + len))), .val (.ref d), .val (.int (Int32.ofNat (q + len))), .val (.int (Int32.ofNat len)), .val (.int (Int32.ofNat len)), z9] [.int (Int32.ofNat len)])) := g9.trans (by
    refine XS.iload X9.here hexec rfl (hb hbytes d3) rfl ?_
    refine XS.iload X9.here hexec rfl (hb hbytes d5) rfl ?_
    refine XS.icmpYes X9.here hexec rfl (pc0 := 7) rfl (hb hbytes d7) rfl (ii_ge_t (nlt32 (by omega) (Nat.le_refl _))) (by decide) rfl ?_
    refine XS.iload X9.here hexec rfl (hb hbytes d44) rfl ?_
    exact Steps.refl _)
  exact ⟨T9, some (.int (Int32.ofNat len)), _, _, _, X9, by simp, rfl, rfl, (fun h => by cases h), ⟨rfl, B9, p9.from hh0, f9⟩, fun fs hl => c11.trans (X9.ireturnOut hexec hret rfl (Or.inl rfl) (hb hbytes d46) hl)⟩
end Cmp5
namespace Cmp3
def yN : MethodName := ⟨"java/lang/StringUTF16", "compress", "([CII)[B"⟩
abbrev yB : ByteArray := jdk_52_method_16_code
theorem d0 : decode yB 0 = .ok (.iload_n 2, 1) := by decide +kernel
theorem d1 : decode yB 1 = .ok (.newarray .byte, 2) := by decide +kernel
theorem d3 : decode yB 3 = .ok (.astore_n 3, 1) := by decide +kernel
theorem d4 : decode yB 4 = .ok (.aload_n 0, 1) := by decide +kernel
theorem d5 : decode yB 5 = .ok (.iload_n 1, 1) := by decide +kernel
theorem d6 : decode yB 6 = .ok (.aload_n 3, 1) := by decide +kernel
theorem d7 : decode yB 7 = .ok (.iconst 0, 1) := by decide +kernel
theorem d8 : decode yB 8 = .ok (.iload_n 2, 1) := by decide +kernel
theorem d9 : decode yB 9 = .ok (.invokestatic 115, 3) := by decide +kernel
theorem d12 : decode yB 12 = .ok (.istore 4, 2) := by decide +kernel
theorem d14 : decode yB 14 = .ok (.iload 4, 2) := by decide +kernel
theorem d16 : decode yB 16 = .ok (.iload_n 2, 1) := by decide +kernel
theorem d17 : decode yB 17 = .ok (.if_icmp (.eq) 40, 3) := by decide +kernel
theorem d57 : decode yB 57 = .ok (.aload_n 3, 1) := by decide +kernel
theorem d58 : decode yB 58 = .ok (.areturn, 1) := by decide +kernel
def site : List Cond := [.arrayClass .byte, Cmp5.tab] ++ staticW U16 115 Cmp5.yN
def tab : Cond := tabOf yN yB 6 (some (.array .byte)) site
def P (b : Addr) (A : Cell) (o len : Nat) (args : Array Value) (s : State) : Prop := args = #[.ref b, .int (Int32.ofNat o), .int (Int32.ofNat len)] ∧ Ch b A s ∧ o + len ≤ A.slots.size ∧ len ≤ 536870912 ∧ ∀ i, i < len → ¬ 255 < cv A (o + i)
def E (b : Addr) (A : Cell) (o len : Nat) (r : Option Value) (s u : State) : Prop := NewArr .byte "[B" len (fun j => .int (lo8 (cv A (o + j)))) r s u ∧ u.heap.size = s.heap.size + 1
/-- no char of the range above 255: a new byte[] of their low bytes -/
theorem law (l : Launch) (b : Addr) (A : Cell) (o len : Nat) : Law l yN 3 3 1 18 yB 6 (some (.array .byte)) site (P b A o len) (E b A o len) [] 1 len := by
  refine Law.of_walk (plainFor_of_name (by decide +kernel)) (by decide +kernel) (by decide +kernel) (by decide) (fun _ _ h => by rw [h.1]; rfl) (fun _ U U' hal hh h => ⟨h.1, h.2.1.mv hal hh, h.2.2⟩) (fun r U U' V V' h1 hal h2 h => ⟨NewArr.mv r U U' V V' h1 hal h2 h.1, by rw [h1, h2]; exact h.2⟩) ?_
  intro p e s m args below meth c s₁ X0 hexec hbytes hml hret hlk hnm hown hh0 W hP
  obtain ⟨rfl, hA, l1, l2, hp⟩ := hP
  have a31 := hA.1.2.2.2
  have c1 : Steps p.tables e below (s₁.setTop (entryFrame m #[.ref b, .int (Int32.ofNat o), .int (Int32.ofNat len)] 6)) (s₁.setTop (mkF m 0 #[.val (.ref b), .val (.int (Int32.ofNat o)), .val (.int (Int32.ofNat len)), .unset, .unset, .unset] [])) := entry rfl
  have c2 : Steps p.tables e below (s₁.setTop (entryFrame m #[.ref b, .int (Int32.ofNat o), .int (Int32.ofNat len)] 6)) (s₁.setTop (mkF m 1 #[.val (.ref b), .val (.int (Int32.ofNat o)), .val (.int (Int32.ofNat len)), .unset, .unset, .unset] [.int (Int32.ofNat len)])) := c1.trans (by
    refine XS.iloadN X0.here hexec rfl (hb hbytes d0) rfl ?_
    exact Steps.refl _)
  obtain ⟨T3, B3, X3, ba3, bs3, bv3, bh3, bf3, st3⟩ := X0.anew hexec (atype := .byte) (wk W (.arrayClass .byte)) rfl (by show len * 1 ≤ _; omega) (by omega) (g := (mkF m 1 #[.val (.ref b), .val (.int (Int32.ofNat o)), .val (.int (Int32.ofNat len)), .unset, .unset, .unset] [.int (Int32.ofNat len)])) rfl (hb hbytes d1) (rest := []) rfl (Nat.le_refl _) (by show 0 + len ≤ len; omega)
  rw [hh0] at ba3 st3
  have kp3 : XT.Kept s T3 := (XT.Kept.of_eq hh0).push bh3
  have hA3 := hA.keep X3.warmed.alike (kp3 _ _ hA.1.1)
  have hne : b ≠ s.heap.size := hA.1.ne
  have c4 : Steps p.tables e below (s₁.setTop (entryFrame m #[.ref b, .int (Int32.ofNat o), .int (Int32.ofNat len)] 6)) (T3.setTop (mkF m 3 #[.val (.ref b), .val (.int (Int32.ofNat o)), .val (.int (Int32.ofNat len)), .unset, .unset, .unset] [.ref s.heap.size])) := c2.trans (st3 _ (Steps.refl _))
  have c5 : Steps p.tables e below (s₁.setTop (entryFrame m #[.ref b, .int (Int32.ofNat o), .int (Int32.ofNat len)] 6)) (T3.setTop (mkF m 9 #[.val (.ref b), .val (.int (Int32.ofNat o)), .val (.int (Int32.ofNat len)), .val (.ref s.heap.size), .unset, .unset] [.int (Int32.ofNat len), .int 0, .ref s.heap.size, .int (Int32.ofNat o), .ref b])) := c4.trans (by
    refine XS.astoreN X3.here hexec rfl (hb hbytes d3) rfl rfl rfl ?_
    refine XS.aloadN X3.here hexec rfl (hb hbytes d4) rfl rfl ?_
    refine XS.iloadN X3.here hexec rfl (hb hbytes d5) rfl ?_
    refine XS.aloadN X3.here hexec rfl (hb hbytes d6) rfl rfl ?_
    refine iconstV X3.here hexec rfl 0 (hb hbytes d7) (by decide) ?_
    refine XS.iloadN X3.here hexec rfl (hb hbytes d8) rfl ?_
    exact Steps.refl _)
  obtain ⟨v6, T6, X6, E6, g6⟩ := X3.callS hexec (Cmp5.law l b A s.heap.size B3 o 0 len) hown (wks W (staticW U16 115 Cmp5.yN)) (wk W Cmp5.tab) (W := 0) (Nat.le_of_ble_eq_true rfl) (Nat.le_of_ble_eq_true rfl) (Nat.le_refl _) (by show 0 + len + 0 ≤ len; omega) (g := (mkF m 9 #[.val (.ref b), .val (.int (Int32.ofNat o)), .val (.int (Int32.ofNat len)), .val (.ref s.heap.size), .unset, .unset] [.int (Int32.ofNat len), .int (Int32.ofNat 0), .ref s.heap.size, .int (Int32.ofNat o), .ref b])) rfl (by rw [hml]; rfl) c5 (argsL := [.ref b, .int (Int32.ofNat o), .ref s.heap.size, .int (Int32.ofNat 0), .int (Int32.ofNat len)]) (rest := []) rfl rfl (by show 2 * 0 + 0 ≤ _; decide) (hb hbytes d9) (⟨rfl, hA3, ba3, hne, l1, by rw [bs3]; simp, hp⟩)
  obtain ⟨rfl, B6, p6, f6⟩ := E6
  have c7 : Steps p.tables e below (s₁.setTop (entryFrame m #[.ref b, .int (Int32.ofNat o), .int (Int32.ofNat len)] 6)) (T6.setTop (mkF m 12 #[.val (.ref b), .val (.int (Int32.ofNat o)), .val (.int (Int32.ofNat len)), .val (.ref s.heap.size), .unset, .unset] [.int (Int32.ofNat len)])) := g6
  have c8 : Steps p.tables e below (s₁.setTop (entryFrame m #[.ref b, .int (Int32.ofNat o), .int (Int32.ofNat len)] 6)) (T6.setTop (mkF m 58 #[.val (.ref b), .val (.int (Int32.ofNat o)), .val (.int (Int32.ofNat len)), .val (.ref s.heap.size), .val (.int (Int32.ofNat len)), .unset] [.ref s.heap.size])) := c7.trans (by
    refine XS.istore X6.here hexec rfl (hb hbytes d12) rfl rfl ?_
    refine XS.iload X6.here hexec rfl (hb hbytes d14) rfl ?_
    refine XS.iloadN X6.here hexec rfl (hb hbytes d16) rfl ?_
    refine XS.icmpYes X6.here hexec rfl (pc0 := 17) rfl (hb hbytes d17) rfl (ii_eq_t rfl) (by decide) rfl ?_
    refine XS.aloadN X6.here hexec rfl (hb hbytes d57) rfl rfl ?_
    exact Steps.refl _)
  have X8 := X6.wide (L' := []) (cells' := 1) (slots' := len) (fun x hx hlt => by
    simp only [List.nil_append, copyLocs, List.mem_map, List.mem_range] at hx
    obtain ⟨i, -, rfl⟩ := hx
    exact absurd hlt (Nat.lt_irrefl _)) (Nat.le_refl _) (by omega)
  exact ⟨T6, some (.ref s.heap.size), _, _, _, X8, rfl, rfl, rfl, (fun h => by cases h), ⟨⟨rfl, B6, ba3.like (X3.warmed.alike.symm.trans X6.warmed.alike) p6.1 f6.1 f6.2.1 f6.2.2.1, f6.2.1.trans bv3, by rw [X6.warmed.alike.findClass, f6.1]; exact bf3, by rw [f6.2.2.1, bs3]; simp, fun j hj => by rw [f6.2.2.2 j, if_pos (by omega)]; rfl, kp3.put p6 (Nat.le_refl _)⟩, by rw [p6.2.2, bh3, hh0]; simp⟩, fun fs hl => c8.trans (X8.areturnOut hexec rfl hret rfl (hb hbytes d58) hl)⟩
end Cmp3
namespace CodL
def yN : MethodName := ⟨"java/lang/StringUTF16", "coderFromArrayLen", "([BI)B"⟩
abbrev yB : ByteArray := jdk_52_method_15_code
theorem d0 : decode yB 0 = .ok (.iload_n 1, 1) := by decide +kernel
theorem d1 : decode yB 1 = .ok (.aload_n 0, 1) := by decide +kernel
theorem d2 : decode yB 2 = .ok (.arraylength, 1) := by decide +kernel
theorem d3 : decode yB 3 = .ok (.isub, 1) := by decide +kernel
theorem d4 : decode yB 4 = .ok (.bipush 31, 2) := by decide +kernel
theorem d6 : decode yB 6 = .ok (.iushr, 1) := by decide +kernel
theorem d7 : decode yB 7 = .ok (.i2b, 1) := by decide +kernel
theorem d8 : decode yB 8 = .ok (.ireturn, 1) := by decide +kernel
def site : List Cond := []
def tab : Cond := tabOf yN yB 2 (some .byte) site
def P (d : Addr) (B : Cell) (args : Array Value) (s : State) : Prop := args = #[.ref d, .int (Int32.ofNat B.slots.size)] ∧ Arr .byte d B s
def E (r : Option Value) (s u : State) : Prop := XT.PureE (some (.int 0)) r s u
/-- an array as long as the number of chars: LATIN1 -/
theorem law (l : Launch) (d : Addr) (B : Cell) : Law l yN 2 2 0 0 yB 2 (some .byte) site (P d B) E [] 0 0 := by
  refine Law.of_walk (plainFor_of_name (by decide +kernel)) (by decide +kernel) (by decide +kernel) (by decide) (fun _ _ h => by rw [h.1]; rfl) (fun _ U U' hal hh h => ⟨h.1, h.2.mv hal hh⟩) (fun r U U' V V' h1 hal h2 h => XT.PureE.mv r U U' V V' h1 hal h2 h) ?_
  intro p e s m args below meth c s₁ X0 hexec hbytes hml hret hlk hnm hown hh0 W hP
  obtain ⟨rfl, hB⟩ := hP
  have hB0 := hB.mv X0.warmed.alike hh0
  have c1 : Steps p.tables e below (s₁.setTop (entryFrame m #[.ref d, .int (Int32.ofNat B.slots.size)] 2)) (s₁.setTop (mkF m 0 #[.val (.ref d), .val (.int (Int32.ofNat B.slots.size))] [])) := entry rfl
  have c2 : Steps p.tables e below (s₁.setTop (entryFrame m #[.ref d, .int (Int32.ofNat B.slots.size)] 2)) (s₁.setTop (mkF m 2 #[.val (.ref d), .val (.int (Int32.ofNat B.slots.size))] [.ref d, .int (Int32.ofNat B.slots.size)])) := c1.trans (by
    refine XS.iloadN X0.here hexec rfl (hb hbytes d0) rfl ?_
    refine XS.aloadN X0.here hexec rfl (hb hbytes d1) rfl rfl ?_
    exact Steps.refl _)
  have c3 : Steps p.tables e below (s₁.setTop (entryFrame m #[.ref d, .int (Int32.ofNat B.slots.size)] 2)) (s₁.setTop (mkF m 8 #[.val (.ref d), .val (.int (Int32.ofNat B.slots.size))] [.int (lo8 (ushr (Int32.ofNat B.slots.size - Int32.ofNat B.slots.size) 31))])) := c2.trans (by
    refine X0.alen hexec hB0 rfl rfl (hb hbytes d2) ?_
    refine XS.isub X0.here hexec rfl (hb hbytes d3) rfl ?_
    refine bipushV X0.here hexec rfl 31 (hb hbytes d4) (by decide) ?_
    refine iushr X0.here hexec rfl (hb hbytes d6) rfl ?_
    refine i2b X0.here hexec rfl (hb hbytes d7) rfl ?_
    exact Steps.refl _)
  have e0 : lo8 (ushr (Int32.ofNat B.slots.size - Int32.ofNat B.slots.size) 31) = 0 := by rw [Int32.sub_self]; decide
  rw [e0] at c3
  exact ⟨s₁, some (.int 0), _, _, _, X0, rfl, rfl, rfl, (fun h => by cases h), ⟨rfl, hh0⟩, fun fs hl => c3.trans (X0.ireturnOut hexec hret rfl (Or.inr (Or.inr (Or.inl rfl))) (hb hbytes d8) hl)⟩
end CodL
/-- the String at a is Latin-1 over a new byte[] (the heap's one new cell): the low bytes of the len chars of A from o on; every cell but a is kept -/
def Got (a : Addr) (D : Cell) (fV fC : Field) (A : Cell) (o len : Nat) (r : Option Value) (s u : State) : Prop := r = none ∧ ∃ D' V : Cell, Blank "java/lang/String" a D' u ∧ Same D D' [fV.slot, fC.slot] ∧ D'.slots[fV.slot]? = some (.ref s.heap.size) ∧ D'.slots[fC.slot]? = some (.int 0) ∧ Arr .byte s.heap.size V u ∧ V.vm = .none ∧ u.vm.findClass "[B" = some V.cls ∧ V.slots.size = len ∧ (∀ j, j < len → V.slots[j]? = some (.int (lo8 (cv A (o + j))))) ∧ (∀ (y : Addr) (c : Cell), y ≠ a → s.heap[y]? = some c → u.heap[y]? = some c) ∧ u.heap.size = s.heap.size + 1
theorem Got.mv {a : Addr} {D A : Cell} {fV fC : Field} {o len : Nat} : ∀ r (U U' V V' : State), U'.heap = U.heap → V.vm.Alike V'.vm → V'.heap = V.heap → Got a D fV fC A o len r U V → Got a D fV fC A o len r U' V' :=
  fun r U U' V V' h1 hal h2 ⟨e0, D', X, a1, a2, a3, a4, a5, a6, a7, a8, a9, a10, a11⟩ => ⟨e0, D', X, a1.mv hal h2, a2, by rw [h1]; exact a3, a4, by rw [h1]; exact a5.mv hal h2, a6, by rw [hal.findClass]; exact a7, a8, a9, by rw [h1, h2]; exact a10, by rw [h1, h2]; exact a11⟩
namespace New4
def yN : MethodName := ⟨"java/lang/String", "<init>", "([CIILjava/lang/Void;)V"⟩
abbrev yB : ByteArray := jdk_42_method_149_code
theorem d0 : decode yB 0 = .ok (.aload_n 0, 1) := by decide +kernel
theorem d1 : decode yB 1 = .ok (.invokespecial 1, 3) := by decide +kernel
theorem d4 : decode yB 4 = .ok (.iload_n 3, 1) := by decide +kernel
theorem d5 : decode yB 5 = .ok (.ifCond (.ne) 22, 3) := by decide +kernel
theorem d27 : decode yB 27 = .ok (.getstatic 38, 3) := by decide +kernel
theorem d30 : decode yB 30 = .ok (.ifCond (.eq) 28, 3) := by decide +kernel
theorem d33 : decode yB 33 = .ok (.aload_n 1, 1) := by decide +kernel
theorem d34 : decode yB 34 = .ok (.iload_n 2, 1) := by decide +kernel
theorem d35 : decode yB 35 = .ok (.iload_n 3, 1) := by decide +kernel
theorem d36 : decode yB 36 = .ok (.invokestatic 177, 3) := by decide +kernel
theorem d39 : decode yB 39 = .ok (.astore 5, 2) := by decide +kernel
theorem d41 : decode yB 41 = .ok (.aload_n 0, 1) := by decide +kernel
theorem d42 : decode yB 42 = .ok (.aload 5, 2) := by decide +kernel
theorem d44 : decode yB 44 = .ok (.iload_n 3, 1) := by decide +kernel
theorem d45 : decode yB 45 = .ok (.invokestatic 47, 3) := by decide +kernel
theorem d48 : decode yB 48 = .ok (.putfield 15, 3) := by decide +kernel
theorem d51 : decode yB 51 = .ok (.aload_n 0, 1) := by decide +kernel
theorem d52 : decode yB 52 = .ok (.aload 5, 2) := by decide +kernel
theorem d54 : decode yB 54 = .ok (.putfield 9, 3) := by decide +kernel
theorem d57 : decode yB 57 = .ok (.return_, 1) := by decide +kernel
def site : List Cond := [.fieldLink "java/lang/String" 38 "java/lang/String" "COMPACT_STRINGS" "Z", Cmp3.tab, CodL.tab, .laysFinal "java/lang/String" "java/lang/String" "value" "[B", .fieldLink "java/lang/String" 9 "java/lang/String" "value" "[B", .laysFinal "java/lang/String" "java/lang/String" "coder" "B", .fieldLink "java/lang/String" 15 "java/lang/String" "coder" "B"] ++ objW "java/lang/String" 1 ++ staticW "java/lang/String" 177 Cmp3.yN ++ staticW "java/lang/String" 47 CodL.yN
def tab : Cond := tabOf yN yB 6 none site
def P (a : Addr) (D : Cell) (fV fC : Field) (b : Addr) (A : Cell) (z : Int32) (o len : Nat) (args : Array Value) (s : State) : Prop := args = #[.ref a, .ref b, .int (Int32.ofNat o), .int (Int32.ofNat len), .null] ∧ Blank "java/lang/String" a D s ∧ Found "java/lang/String" "value" "[B" fV s ∧ Found "java/lang/String" "coder" "B" fC s ∧ Ch b A s ∧ StaticIs s "java/lang/String" "COMPACT_STRINGS" "Z" (.int z) ∧ ¬ z = 0 ∧ 0 < len ∧ o + len ≤ A.slots.size ∧ len ≤ 536870912 ∧ ∀ i, i < len → ¬ 255 < cv A (o + i)
def E (a : Addr) (D : Cell) (fV fC : Field) (A : Cell) (o len : Nat) (r : Option Value) (s u : State) : Prop := Got a D fV fC A o len r s u
/-- len > 0, no char of the range above 255: a Latin-1 String of their low bytes -/
theorem law (l : Launch) (a : Addr) (D : Cell) (fV fC : Field) (b : Addr) (A : Cell) (z : Int32) (o len : Nat) : Law l yN 5 4 2 35 yB 6 none site (P a D fV fC b A z o len) (E a D fV fC A o len) [⟨a, fC.slot⟩, ⟨a, fV.slot⟩] 1 len := by
  refine Law.of_walk (plainFor_of_name (by decide +kernel)) (by decide +kernel) (by decide +kernel) (by decide) (fun _ _ h => by rw [h.1]; rfl) (fun _ U U' hal hh h => ⟨h.1, h.2.1.mv hal hh, h.2.2.1.al hal, h.2.2.2.1.al hal, h.2.2.2.2.1.mv hal hh, h.2.2.2.2.2.1.there hal hh, h.2.2.2.2.2.2⟩) (fun r U U' V V' h1 hal h2 h => Got.mv r U U' V V' h1 hal h2 h) ?_
  intro p e s m args below meth c s₁ X0 hexec hbytes hml hret hlk hnm hown hh0 W hP
  obtain ⟨rfl, hB, f1, f2, hA, s1, hz, l0, l1, l2, hp⟩ := hP
  have a31 := hA.1.2.2.2
  have c1 : Steps p.tables e below (s₁.setTop (entryFrame m #[.ref a, .ref b, .int (Int32.ofNat o), .int (Int32.ofNat len), .null] 6)) (s₁.setTop (mkF m 0 #[.val (.ref a), .val (.ref b), .val (.int (Int32.ofNat o)), .val (.int (Int32.ofNat len)), .val .null, .unset] [])) := entry rfl
  have c2 : Steps p.tables e below (s₁.setTop (entryFrame m #[.ref a, .ref b, .int (Int32.ofNat o), .int (Int32.ofNat len), .null] 6)) (s₁.setTop (mkF m 1 #[.val (.ref a), .val (.ref b), .val (.int (Int32.ofNat o)), .val (.int (Int32.ofNat len)), .val .null, .unset] [.ref a])) := c1.trans (by
    refine XS.aloadN X0.here hexec rfl (hb hbytes d0) rfl rfl ?_
    exact Steps.refl _)
  obtain ⟨T3, X3, q3, st3⟩ := X0.oinit hexec hown (wks W (objW "java/lang/String" 1)) (g := (mkF m 1 #[.val (.ref a), .val (.ref b), .val (.int (Int32.ofNat o)), .val (.int (Int32.ofNat len)), .val .null, .unset] [.ref a])) rfl (by rw [hml]; rfl) (rest := []) rfl (hb hbytes d1) (W := 0) (by show 2 * 0 + 0 ≤ _; decide) (Nat.le_of_ble_eq_true rfl) (Nat.le_of_ble_eq_true rfl)
  have hh3 := q3.trans hh0
  have c4 : Steps p.tables e below (s₁.setTop (entryFrame m #[.ref a, .ref b, .int (Int32.ofNat o), .int (Int32.ofNat len), .null] 6)) (T3.setTop (mkF m 27 #[.val (.ref a), .val (.ref b), .val (.int (Int32.ofNat o)), .val (.int (Int32.ofNat len)), .val .null, .unset] [])) := (c2.trans (st3 _ (Steps.refl _))).trans (by
    refine XS.iloadN X3.here hexec rfl (hb hbytes d4) rfl ?_
    refine XS.ifYes X3.here hexec rfl (pc0 := 5) rfl (hb hbytes d5) rfl (i0_ne_t (nz32 (by omega) l0)) (by decide) rfl ?_
    exact Steps.refl _)
  obtain ⟨T5, X5, q5, st5⟩ := X3.sget hexec hown (wk W (.fieldLink "java/lang/String" 38 "java/lang/String" "COMPACT_STRINGS" "Z")) s1 (fun _ _ h => by rw [hh3]; exact h) (g := (mkF m 27 #[.val (.ref a), .val (.ref b), .val (.int (Int32.ofNat o)), .val (.int (Int32.ofNat len)), .val .null, .unset] [])) rfl (hb hbytes d27)
  have hh5 := q5.trans hh3
  have c6 : Steps p.tables e below (s₁.setTop (entryFrame m #[.ref a, .ref b, .int (Int32.ofNat o), .int (Int32.ofNat len), .null] 6)) (T5.setTop (mkF m 30 #[.val (.ref a), .val (.ref b), .val (.int (Int32.ofNat o)), .val (.int (Int32.ofNat len)), .val .null, .unset] [.int z])) := c4.trans (st5 _ (Steps.refl _))
  have c7 : Steps p.tables e below (s₁.setTop (entryFrame m #[.ref a, .ref b, .int (Int32.ofNat o), .int (Int32.ofNat len), .null] 6)) (T5.setTop (mkF m 36 #[.val (.ref a), .val (.ref b), .val (.int (Int32.ofNat o)), .val (.int (Int32.ofNat len)), .val .null, .unset] [.int (Int32.ofNat len), .int (Int32.ofNat o), .ref b])) := c6.trans (by
    refine XS.ifNo X5.here hexec rfl (hb hbytes d30) rfl (i0_eq_f hz) ?_
    refine XS.aloadN X5.here hexec rfl (hb hbytes d33) rfl rfl ?_
    refine XS.iloadN X5.here hexec rfl (hb hbytes d34) rfl ?_
    refine XS.iloadN X5.here hexec rfl (hb hbytes d35) rfl ?_
    exact Steps.refl _)
  obtain ⟨v8, T8, X8, E8, g8⟩ := X5.callS hexec (Cmp3.law l b A o len) hown (wks W (staticW "java/lang/String" 177 Cmp3.yN)) (wk W Cmp3.tab) (W := 0) (Nat.le_of_ble_eq_true rfl) (Nat.le_of_ble_eq_true rfl) (Nat.le_refl _) (by show 0 + len ≤ len; omega) (g := (mkF m 36 #[.val (.ref a), .val (.ref b), .val (.int (Int32.ofNat o)), .val (.int (Int32.ofNat len)), .val .null, .unset] [.int (Int32.ofNat len), .int (Int32.ofNat o), .ref b])) rfl (by rw [hml]; rfl) c7 (argsL := [.ref b, .int (Int32.ofNat o), .int (Int32.ofNat len)]) (rest := []) rfl rfl (by show 2 * 0 + 0 ≤ _; decide) (hb hbytes d36) (⟨rfl, hA.mv X5.warmed.alike hh5, l1, l2, hp⟩)
  obtain ⟨e8, z8⟩ := E8
  obtain ⟨rfl, N, n1, n2, n3, n4, n5, n6⟩ := NewArr.mv _ T5 s _ _ hh5.symm (Vm.Alike.refl _) rfl e8
  rw [hh5] at z8
  have hB1 := hB.keep X8.warmed.alike (n6 _ _ hB.1)
  have hne : s.heap.size ≠ a := (Nat.ne_of_lt (Array.getElem?_eq_some_iff.mp hB.1).1).symm
  have c9 : Steps p.tables e below (s₁.setTop (entryFrame m #[.ref a, .ref b, .int (Int32.ofNat o), .int (Int32.ofNat len), .null] 6)) (T8.setTop (mkF m 39 #[.val (.ref a), .val (.ref b), .val (.int (Int32.ofNat o)), .val (.int (Int32.ofNat len)), .val .null, .unset] [.ref s.heap.size])) := g8
  have c10 : Steps p.tables e below (s₁.setTop (entryFrame m #[.ref a, .ref b, .int (Int32.ofNat o), .int (Int32.ofNat len), .null] 6)) (T8.setTop (mkF m 45 #[.val (.ref a), .val (.ref b), .val (.int (Int32.ofNat o)), .val (.int (Int32.ofNat len)), .val .null, .val (.ref s.heap.size)] [.int (Int32.ofNat N.slots.size), .ref s.heap.size, .ref a])) := by
    have hc : Steps p.tables e below (s₁.setTop (entryFrame m #[.ref a, .ref b, .int (Int32.ofNat o), .int (Int32.ofNat len), .null] 6)) (T8.setTop (mkF m 45 #[.val (.ref a), .val (.ref b), .val (.int (Int32.ofNat o)), .val (.int (Int32.ofNat len)), .val .null, .val (.ref s.heap.size)] [.int (Int32.ofNat len), .ref s.heap.size, .ref a])) := c9.trans (by
      refine XS.astore X8.here hexec rfl (hb hbytes d39) rfl rfl rfl ?_
      refine XS.aloadN X8.here hexec rfl (hb hbytes d41) rfl rfl ?_
      refine XS.aload X8.here hexec rfl (hb hbytes d42) rfl rfl ?_
      refine XS.iloadN X8.here hexec rfl (hb hbytes d44) rfl ?_
      exact Steps.refl _)
    rw [n4]; exact hc
  obtain ⟨v11, T11, X11, E11, g11⟩ := X8.callS hexec (CodL.law l s.heap.size N) hown (wks W (staticW "java/lang/String" 47 CodL.yN)) (wk W CodL.tab) (W := 1) (Nat.le_of_ble_eq_true rfl) (Nat.le_of_ble_eq_true rfl) (Nat.le_refl _) (by show 0 + len + 0 ≤ len; omega) (g := (mkF m 45 #[.val (.ref a), .val (.ref b), .val (.int (Int32.ofNat o)), .val (.int (Int32.ofNat len)), .val .null, .val (.ref s.heap.size)] [.int (Int32.ofNat N.slots.size), .ref s.heap.size, .ref a])) rfl (by rw [hml]; rfl) c10 (argsL := [.ref s.heap.size, .int (Int32.ofNat N.slots.size)]) (rest := [.ref a]) rfl rfl (by show 2 * 0 + (1 + 0) ≤ _; decide) (hb hbytes d45) (⟨rfl, n1⟩)
  obtain ⟨rfl, q11⟩ := E11
  have hB11 := hB1.mv (X8.warmed.alike.symm.trans X11.warmed.alike) q11
  have c12 : Steps p.tables e below (s₁.setTop (entryFrame m #[.ref a, .ref b, .int (Int32.ofNat o), .int (Int32.ofNat len), .null] 6)) (T11.setTop (mkF m 48 #[.val (.ref a), .val (.ref b), .val (.int (Int32.ofNat o)), .val (.int (Int32.ofNat len)), .val .null, .val (.ref s.heap.size)] [.int 0, .ref a])) := g11
  obtain ⟨T13, X13, p13, bl13, sl13, st13⟩ := X11.finit hexec hown (wk W (.fieldLink "java/lang/String" 15 "java/lang/String" "coder" "B")) (Or.inr ⟨_, (wk W (.laysFinal "java/lang/String" "java/lang/String" "coder" "B"))⟩) (Or.inl ⟨rfl, hnm⟩) f2 (Or.inl rfl) hB11 (t := .byte) (by decide +kernel) rfl (g := (mkF m 48 #[.val (.ref a), .val (.ref b), .val (.int (Int32.ofNat o)), .val (.int (Int32.ofNat len)), .val .null, .val (.ref s.heap.size)] [.int 0, .ref a])) rfl (rest := []) rfl (hb hbytes d48)
  have c14 : Steps p.tables e below (s₁.setTop (entryFrame m #[.ref a, .ref b, .int (Int32.ofNat o), .int (Int32.ofNat len), .null] 6)) (T13.setTop (mkF m 54 #[.val (.ref a), .val (.ref b), .val (.int (Int32.ofNat o)), .val (.int (Int32.ofNat len)), .val .null, .val (.ref s.heap.size)] [.ref s.heap.size, .ref a])) := (c12.trans (st13 _ (Steps.refl _))).trans (by
    refine XS.aloadN X13.here hexec rfl (hb hbytes d51) rfl rfl ?_
    refine XS.aload X13.here hexec rfl (hb hbytes d52) rfl rfl ?_
    exact Steps.refl _)
  obtain ⟨T15, X15, p15, bl15, sl15, st15⟩ := X13.finit hexec hown (wk W (.fieldLink "java/lang/String" 9 "java/lang/String" "value" "[B")) (Or.inr ⟨_, (wk W (.laysFinal "java/lang/String" "java/lang/String" "value" "[B"))⟩) (Or.inl ⟨rfl, hnm⟩) f1 (Or.inl rfl) bl13 (t := (.array .byte)) (by decide +kernel) rfl (g := (mkF m 54 #[.val (.ref a), .val (.ref b), .val (.int (Int32.ofNat o)), .val (.int (Int32.ofNat len)), .val .null, .val (.ref s.heap.size)] [.ref s.heap.size, .ref a])) rfl (rest := []) rfl (hb hbytes d54)
  have c16 : Steps p.tables e below (s₁.setTop (entryFrame m #[.ref a, .ref b, .int (Int32.ofNat o), .int (Int32.ofNat len), .null] 6)) (T15.setTop (mkF m 57 #[.val (.ref a), .val (.ref b), .val (.int (Int32.ofNat o)), .val (.int (Int32.ofNat len)), .val .null, .val (.ref s.heap.size)] [])) := c14.trans (st15 _ (Steps.refl _))
  have ap := apart (Or.inr ⟨_, (wk W (.laysFinal "java/lang/String" "java/lang/String" "value" "[B"))⟩) (Or.inr ⟨_, (wk W (.laysFinal "java/lang/String" "java/lang/String" "coder" "B"))⟩) f1 f2 (t₁ := .array .byte) (t₂ := .byte) (by decide +kernel) (by decide +kernel) (by decide)
  have al := X8.warmed.alike.symm.trans X15.warmed.alike
  have n7 : T11.heap[s.heap.size]? = some N := by rw [q11]; exact n1.1
  exact ⟨T15, none, _, _, _, X15, by simp, rfl, by omega, (fun _ => rfl), ⟨rfl, _, N, bl15, ((Same.refl D _).set _ (by simp)).set _ (by simp), sl15, (Cell.slots_setSlot_ne _ ap).trans sl13, n1.keep al (p15.other hne (p13.other hne n7)), n2, by rw [al.findClass]; exact n3, n4, n5, fun y c h1 h2 => p15.other h1 (p13.other h1 (by rw [q11]; exact n6 y c h2)), by rw [p15.2.2, p13.2.2, q11]; exact z8⟩, fun fs hl => c16.trans (X15.returnOut hexec hret (hb hbytes d57) hl)⟩
end New4
namespace New1
def yN : MethodName := ⟨"java/lang/String", "<init>", "([C)V"⟩
abbrev yB : ByteArray := jdk_42_method_3_code
theorem d0 : decode yB 0 = .ok (.aload_n 0, 1) := by decide +kernel
theorem d1 : decode yB 1 = .ok (.aload_n 1, 1) := by decide +kernel
theorem d2 : decode yB 2 = .ok (.iconst 0, 1) := by decide +kernel
theorem d3 : decode yB 3 = .ok (.aload_n 1, 1) := by decide +kernel
theorem d4 : decode yB 4 = .ok (.arraylength, 1) := by decide +kernel
theorem d5 : decode yB 5 = .ok (.aconst_null, 1) := by decide +kernel
theorem d6 : decode yB 6 = .ok (.invokespecial 27, 3) := by decide +kernel
theorem d9 : decode yB 9 = .ok (.return_, 1) := by decide +kernel
def site : List Cond := [New4.tab] ++ initW "java/lang/String" 27 New4.yN
def tab : Cond := tabOf yN yB 2 none site
def P (a : Addr) (D : Cell) (fV fC : Field) (b : Addr) (A : Cell) (z : Int32) (args : Array Value) (s : State) : Prop := args = #[.ref a, .ref b] ∧ Blank "java/lang/String" a D s ∧ Found "java/lang/String" "value" "[B" fV s ∧ Found "java/lang/String" "coder" "B" fC s ∧ Ch b A s ∧ StaticIs s "java/lang/String" "COMPACT_STRINGS" "Z" (.int z) ∧ ¬ z = 0 ∧ 0 < A.slots.size ∧ A.slots.size ≤ 536870912 ∧ ∀ i, i < A.slots.size → ¬ 255 < cv A i
def E (a : Addr) (D : Cell) (fV fC : Field) (A : Cell) (r : Option Value) (s u : State) : Prop := Got a D fV fC A 0 A.slots.size r s u
/-- new String(chars), not empty, no char above 255: a Latin-1 String of their low bytes -/
theorem law (l : Launch) (a : Addr) (D : Cell) (fV fC : Field) (b : Addr) (A : Cell) (z : Int32) : Law l yN 2 1 3 52 yB 2 none site (P a D fV fC b A z) (E a D fV fC A) [⟨a, fC.slot⟩, ⟨a, fV.slot⟩] 1 A.slots.size := by
  refine Law.of_walk (plainFor_of_name (by decide +kernel)) (by decide +kernel) (by decide +kernel) (by decide) (fun _ _ h => by rw [h.1]; rfl) (fun _ U U' hal hh h => ⟨h.1, h.2.1.mv hal hh, h.2.2.1.al hal, h.2.2.2.1.al hal, h.2.2.2.2.1.mv hal hh, h.2.2.2.2.2.1.there hal hh, h.2.2.2.2.2.2⟩) (fun r U U' V V' h1 hal h2 h => Got.mv r U U' V V' h1 hal h2 h) ?_
  intro p e s m args below meth c s₁ X0 hexec hbytes hml hret hlk hnm hown hh0 W hP
  obtain ⟨rfl, hB, f1, f2, hA, s1, hz, l0, l2, hp⟩ := hP
  have c1 : Steps p.tables e below (s₁.setTop (entryFrame m #[.ref a, .ref b] 2)) (s₁.setTop (mkF m 0 #[.val (.ref a), .val (.ref b)] [])) := entry rfl
  have c2 : Steps p.tables e below (s₁.setTop (entryFrame m #[.ref a, .ref b] 2)) (s₁.setTop (mkF m 6 #[.val (.ref a), .val (.ref b)] [.null, .int (Int32.ofNat A.slots.size), .int 0, .ref b, .ref a])) := c1.trans (by
    refine XS.aloadN X0.here hexec rfl (hb hbytes d0) rfl rfl ?_
    refine XS.aloadN X0.here hexec rfl (hb hbytes d1) rfl rfl ?_
    refine iconstV X0.here hexec rfl 0 (hb hbytes d2) (by decide) ?_
    refine XS.aloadN X0.here hexec rfl (hb hbytes d3) rfl rfl ?_
    refine X0.alen hexec (hA.1.mv X0.warmed.alike hh0) rfl rfl (hb hbytes d4) ?_
    refine XS.aconstNull X0.here hexec rfl (hb hbytes d5) ?_
    exact Steps.refl _)
  obtain ⟨v3, T3, X3, E3, g3⟩ := X0.callN hexec (New4.law l a D fV fC b A z 0 A.slots.size) rfl hown (wks W (initW "java/lang/String" 27 New4.yN)) (W New4.tab (by simp only [site, List.mem_cons, List.mem_append, true_or, or_true])) (W := 0) (Nat.le_of_ble_eq_true rfl) (Nat.le_of_ble_eq_true rfl) (Nat.le_refl _) (by show 0 + A.slots.size ≤ A.slots.size; omega) (g := (mkF m 6 #[.val (.ref a), .val (.ref b)] [.null, .int (Int32.ofNat A.slots.size), .int (Int32.ofNat 0), .ref b, .ref a])) rfl (by rw [hml]; rfl) c2 (argsL := [.ref b, .int (Int32.ofNat 0), .int (Int32.ofNat A.slots.size), .null]) (rest := []) rfl rfl (by show 2 * 0 + 0 ≤ _; decide) (hb hbytes d6) (⟨rfl, hB.mv X0.warmed.alike hh0, f1.al X0.warmed.alike, f2.al X0.warmed.alike, hA.mv X0.warmed.alike hh0, s1.there X0.warmed.alike hh0, hz, l0, by omega, l2, fun i hi => by rw [Nat.zero_add]; exact hp i hi⟩)
  have e0 := Got.mv _ s₁ s _ _ hh0.symm (Vm.Alike.refl _) rfl E3
  obtain rfl := e0.1
  have c4 : Steps p.tables e below (s₁.setTop (entryFrame m #[.ref a, .ref b] 2)) (T3.setTop (mkF m 9 #[.val (.ref a), .val (.ref b)] [])) := g3
  exact ⟨T3, none, _, _, _, X3, by simp, rfl, by omega, (fun _ => rfl), e0, fun fs hl => c4.trans (X3.returnOut hexec hret (hb hbytes d9) hl)⟩
theorem pays {l : Launch} {R : Room} {p : Program} {e : Env} {below : List Frame} {s : State} {sargs : Array Value} {len W : Nat} (a : Addr) (D : Cell) (fV fC : Field) (b : Addr) (A : Cell) (z : Int32) (htab : tab.before sargs s = true) (hfr : 4 ≤ R.frames) (hlo : W + 65 ≤ R.locals) :
    Back l R p e below s sargs yN len W (fun A₁ a₁ => A₁.cells + 1 ≤ R.cells ∧ A₁.slots + A.slots.size ≤ R.slots ∧ P a D fV fC b A z a₁ A₁.U) (fun A₁ _ v₁ B₁ => E a D fV fC A v₁ A₁.U B₁.U ∧ B₁.locs = A₁.locs ++ [⟨a, fC.slot⟩, ⟨a, fV.slot⟩] ∧ B₁.cells = A₁.cells + 1 ∧ B₁.slots = A₁.slots + A.slots.size) :=
  (law l a D fV fC b A z).pays htab hfr (by omega)
end New1
end StrChars
namespace StrChars.Road
open Jvm Sem ClassFile Op Lib Jvm.Stand Jvm.Free Jvm.Free.XT
open Jvm.Lib.Cold (StaticIs)
abbrev ST : String := "java/lang/String"
/-- every table word that New1's law asks, flat -/
abbrev words : List Jvm.Cond := [.code New1.yN New1.yB 2 none, .initialized ST, .methodLink ST 27 New4.yN, .instanceMethod New4.yN,
  .code New4.yN New4.yB 6 none, .fieldLink ST 38 ST "COMPACT_STRINGS" "Z", .laysFinal ST ST "value" "[B", .fieldLink ST 9 ST "value" "[B", .laysFinal ST ST "coder" "B", .fieldLink ST 15 ST "coder" "B",
  .methodLink ST 1 Lib.objectInit, .instanceMethod Lib.objectInit, .code Lib.objectInit ⟨#[0xb1]⟩ 1 none, .methodLink ST 177 Cmp3.yN, .static Cmp3.yN, .methodLink ST 47 CodL.yN, .static CodL.yN,
  .code Cmp3.yN Cmp3.yB 6 (some (.array .byte)), .initialized U16, .arrayClass .byte, .methodLink U16 115 Cmp5.yN, .static Cmp5.yN, .code Cmp5.yN Cmp5.yB 7 (some .int), .code CodL.yN CodL.yB 2 (some .byte)]
theorem tab_of {a : Array Value} {s : State} (h : ∀ w ∈ words, w.before a s = true) : New1.tab.before a s = true := by
  have h5 : Cmp5.tab.before a s = true := unparts (wk h (.code Cmp5.yN Cmp5.yB 7 (some .int))) (wks h (.initialized Cmp5.yN.cls :: Cmp5.site))
  have hc : CodL.tab.before a s = true := unparts (wk h (.code CodL.yN CodL.yB 2 (some .byte))) (wks h (.initialized CodL.yN.cls :: CodL.site))
  have q5 : ∀ w ∈ Cmp5.tab :: words, w.before a s = true := fun w hw => (List.mem_cons.mp hw).elim (fun e => e ▸ h5) (h w)
  have h3 : Cmp3.tab.before a s = true := unparts (wk q5 (.code Cmp3.yN Cmp3.yB 6 (some (.array .byte)))) (wks q5 (.initialized Cmp3.yN.cls :: Cmp3.site))
  have q3 : ∀ w ∈ Cmp3.tab :: CodL.tab :: words, w.before a s = true := fun w hw => (List.mem_cons.mp hw).elim (fun e => e ▸ h3) fun hw => (List.mem_cons.mp hw).elim (fun e => e ▸ hc) (h w)
  have h4 : New4.tab.before a s = true := unparts (wk q3 (.code New4.yN New4.yB 6 none)) (wks q3 (.initialized New4.yN.cls :: New4.site))
  have q4 : ∀ w ∈ New4.tab :: words, w.before a s = true := fun w hw => (List.mem_cons.mp hw).elim (fun e => e ▸ h4) (h w)
  exact unparts (wk q4 (.code New1.yN New1.yB 2 none)) (wks q4 (.initialized New1.yN.cls :: New1.site))
/-- the words ride from the start Z to the walk's own state -/
theorem moved {Z s : State} {a0 args : Array Value} (hZ : Z.Warmed39 s.vm) (hw : ∀ d ∈ words, d.before a0 Z = true) : ∀ d ∈ words, d.before args s = true := fun d hd => by
  have q := hw d hd
  have t : ∀ d ∈ words, d = .arrayClass .byte ∨ (d.onTables && d.keepsFace) = true := by decide +kernel
  rcases t d hd with rfl | t
  · exact RoadKit.mvA hZ q
  · exact RoadKit.mv hZ q t
/-- WHAT COMES BACK, over the tables of the start Z: h the heap at the call, h' behind it -/
def Q (Z : State) (x : Addr) (A : Cell) (h : Heap) (v : Option Value) (h' : Heap) (L : List Loc) : Prop := v = none ∧ (∀ y ∈ L, y.base = x) ∧ RoadKit.Keep h h' [x] ∧ h'.size = h.size + 1 ∧ RoadKit.Exa Z h' x ST ∧ RoadKit.Fld Z h' x ST "value" "[B" (.ref h.size) ∧ RoadKit.Fld Z h' x ST "coder" "B" (.int 0) ∧
  (∃ V : Cell, RoadKit.Arr Z h' h.size V .byte ∧ V.vm = .none ∧ Z.vm.findClass "[B" = some V.cls ∧ V.slots.size = A.slots.size ∧ ∀ j, j < A.slots.size → V.slots[j]? = some (.int (lo8 (cv A j)))) ∧
  ∀ (O n d : String) (w : Value), RoadKit.Fld Z h x O n d w → RoadKit.slotOf Z O n d ≠ RoadKit.slotOf Z ST "value" "[B" → RoadKit.slotOf Z O n d ≠ RoadKit.slotOf Z ST "coder" "B" → RoadKit.Fld Z h' x O n d w
/-- **new String(chars) AT A CALL, IN THE ROAD'S FORM**: for specialBack behind newO: x the fresh String, b the char[] with the cell A -/
theorem back {p : Program} {l : Launch} {e : Env} {R : Room} {s : State} {args : Array Value} {below : List Frame} {len W : Nat} {Z : State} {a0 : Array Value} {h : Heap} (hZ : Z.Warmed39 s.vm) (hw : ∀ d ∈ words, d.before a0 Z = true) {kI : Nat} (wi : (Jvm.Cond.instantiable ST kI).before a0 Z = true)
    {x b : Addr} {A : Cell} {z : Int32} {v0 c0 : Value} (E : RoadKit.Exa Z h x ST) (V : RoadKit.Fld Z h x ST "value" "[B" v0) (C : RoadKit.Fld Z h x ST "coder" "B" c0) (K : RoadKit.Arr Z h b A .char) (hty : Typed .char A) (S : RoadKit.Sta Z h ST "COMPACT_STRINGS" "Z" (.int z)) (hz : ¬ z = 0)
    (l0 : 0 < A.slots.size) (l2 : A.slots.size ≤ 536870912) (hp : ∀ i, i < A.slots.size → ¬ 255 < cv A i) (hfr : 4 ≤ R.frames) (hlo : W + 65 ≤ R.locals) :
    Back l R p e below s args New1.yN len W (fun P a => a = #[.ref x, .ref b] ∧ P.U.heap = h ∧ P.cells + 1 ≤ R.cells ∧ P.slots + A.slots.size ≤ R.slots)
      (fun P _ v B => ∃ L, Q Z x A h v B.U.heap L ∧ B.locs = P.locs ++ L ∧ B.cells = P.cells + 1 ∧ B.slots = P.slots + A.slots.size) := by
  intro m meth c P g ig mk a X hg hsize hdg hW hn hp'
  obtain ⟨rfl, rfl, r1, r2⟩ := hp'
  have al : Z.vm.Alike P.U.vm := hZ.alike.trans X.warmed.alike
  obtain ⟨D, cfV, kV, iV, fV, hD, gV, stV, knV, obV, asV, slV⟩ := id V
  obtain ⟨D', cfC, kC, iC, fC, hD', gC, stC, -, -, asC, slC⟩ := id C
  cases hD.symm.trans hD'
  obtain ⟨D2, kD, e1, e2, e3, e4, e5⟩ := id E
  cases hD.symm.trans e1
  obtain ⟨c2, k2, i1, i2, i3, -⟩ := Cond.instantiable_spec wi
  cases e2.symm.trans i1
  cases e3.symm.trans i2
  obtain ⟨kU, u1, u2⟩ := al.2.2 _ _ e3
  have hB : Blank ST x D P.U := ⟨hD, ⟨knV, fun q hq => by rw [hq] at obV; cases obV⟩, by rw [al.findClass]; exact e2, kU, u1, by rw [u2]; exact i3, by rw [u2]; exact e5 i3⟩
  have F1 : Found ST "value" "[B" fV P.U := ⟨SBG.found_only al ⟨cfV, kV, iV, gV⟩, stV⟩
  have F2 : Found ST "coder" "B" fC P.U := ⟨SBG.found_only al ⟨cfC, kC, iC, gC⟩, stC⟩
  have hA : Ch b A P.U := ⟨⟨K.1, State.isArrayOf_alike al K.2.1, K.2.2, by omega⟩, hty⟩
  have hS : StaticIs P.U ST "COMPACT_STRINGS" "Z" (.int z) := by
    obtain ⟨cfS, iS, kS, fS, st, cS, t1, t2, t3, t4, t5, t6, t7⟩ := S
    exact StaticIs.there (s := { Z with heap := P.U.heap }) ⟨cfS, iS, kS, fS, st, cS, t1, t2, t3, t4, t5, (fun q => by rw [q] at t6; cases t6), t7⟩ al rfl
  obtain ⟨v, B, X', ⟨⟨hv, E', V', q1, q2, q3, q4, q5, q6, q7, q8, q9, q10, q11⟩, hl, hc, hs⟩, st⟩ := New1.pays x D fV fC b A z (tab_of (moved hZ hw)) hfr hlo m meth c P g ig mk _ X hg hsize hdg hW hn ⟨r1, r2, rfl, hB, F1, F2, hA, hS, hz, l0, l2, hp⟩
  have al' : Z.vm.Alike B.U.vm := hZ.alike.trans X'.warmed.alike
  have hsz : E'.slots.size = D.slots.size := by
    obtain ⟨-, -, -, kB, w1, w2, w3⟩ := q1
    obtain ⟨kB', y1, y2⟩ := al'.2.2 _ _ e3
    rw [q2.2.1] at w1
    cases w1.symm.trans y1
    rw [w3, e5 i3, y2]
  refine ⟨v, B, X', ⟨_, ⟨hv, ?_, ⟨by omega, fun y cy hy hn' => q10 y cy (by simpa using hn') hy, fun y cy hy => ?_⟩, q11, ⟨E', _, q1.1, by rw [q2.2.1]; exact e2, by rw [q2.2.1]; exact e3, by rw [q2.1]; exact obV, fun _ => by rw [hsz]; exact e5 i3⟩,
    ⟨E', cfV, kV, iV, fV, q1.1, gV, stV, by rw [q2.1]; exact knV, by rw [q2.1]; exact obV, by rw [q2.2.1]; exact asV, q3⟩, ⟨E', cfC, kC, iC, fC, q1.1, gC, stC, by rw [q2.1]; exact knV, by rw [q2.1]; exact obV, by rw [q2.2.1]; exact asC, q4⟩,
    ⟨V', ⟨q5.1, State.isArrayOf_alike al'.symm q5.2.1, q5.2.2.1⟩, q6, by rw [← al'.findClass]; exact q7, q8, fun j hj => by have := q9 j hj; rwa [Nat.zero_add] at this⟩, fun O n d w F n1 n2 => ?_⟩, hl, hc, hs⟩, st⟩
  · intro y hy
    simp only [List.mem_cons, List.not_mem_nil, or_false] at hy
    rcases hy with rfl | rfl <;> rfl
  · by_cases q : y = x
    · subst q
      cases hD.symm.trans hy
      exact ⟨E', q1.1, q2.2.1, q2.1, hsz⟩
    · exact ⟨cy, q10 y cy q hy, rfl, rfl, rfl⟩
  · obtain ⟨D3, cf, k, i, f, g1, g2, g3, g4, g5, g6, g7⟩ := F
    cases hD.symm.trans g1
    simp only [RoadKit.slotOf, g2, gV, gC, Option.map_some, Option.getD_some] at n1 n2
    exact ⟨E', cf, k, i, f, q1.1, g2, g3, by rw [q2.1]; exact g4, by rw [q2.1]; exact g5, by rw [q2.2.1]; exact g6, by rw [q2.2.2 f.slot (by simp [n1, n2])]; exact g7⟩
end StrChars.Road
namespace StrChars.Road
open Jvm Sem ClassFile Op Lib Jvm.Stand Jvm.Free Jvm.Free.XT
/-- WHAT COMES BACK, the byte[] as a list of values -/
def QA (Z : State) (x : Addr) (zn : Int32) (cs : List Int32) (h : Heap) (v : Option Value) (h' : Heap) (L : List Loc) : Prop := v = none ∧ (∀ y ∈ L, y.base = x) ∧ RoadKit.Keep h h' [x] ∧ h'.size = h.size + 1 ∧ RoadKit.Exa Z h' x ST ∧ RoadKit.Fld Z h' x ST "value" "[B" (.ref h.size) ∧ RoadKit.Fld Z h' x ST "coder" "B" (.int 0) ∧
  (∃ kb, Z.vm.findClass "[B" = some kb ∧ RoadKit.Arv Z h' h.size kb .byte zn (cs.map fun c => .int (lo8 c)) (.int 0)) ∧
  ∀ (O n d : String) (w : Value), RoadKit.Fld Z h x O n d w → RoadKit.slotOf Z O n d ≠ RoadKit.slotOf Z ST "value" "[B" → RoadKit.slotOf Z O n d ≠ RoadKit.slotOf Z ST "coder" "B" → RoadKit.Fld Z h' x O n d w
/-- **new String(chars) AT A CALL, THE ARRAYS AS LISTS**: the char[] at b holds cs, not empty, no char above 255 -/
theorem backArv {p : Program} {l : Launch} {e : Env} {R : Room} {s : State} {args : Array Value} {below : List Frame} {len W : Nat} {Z : State} {a0 : Array Value} {h : Heap} (hZ : Z.Warmed39 s.vm) (hw : ∀ d ∈ words, d.before a0 Z = true) {kI : Nat} (wi : (Jvm.Cond.instantiable ST kI).before a0 Z = true)
    {x b : Addr} {k : ClassId} {zn z : Int32} {cs : List Int32} {dv v0 c0 : Value} (E : RoadKit.Exa Z h x ST) (V : RoadKit.Fld Z h x ST "value" "[B" v0) (C : RoadKit.Fld Z h x ST "coder" "B" c0) (K : RoadKit.Arv Z h b k .char zn (cs.map Value.int) dv) (S : RoadKit.Sta Z h ST "COMPACT_STRINGS" "Z" (.int z)) (hz : ¬ z = 0)
    (hlen : zn.toNatClampNeg = cs.length) (h0 : 0 < cs.length) (hbig : cs.length ≤ 536870912) (hall : ∀ c ∈ cs, ¬ 255 < c) (hfr : 4 ≤ R.frames) (hlo : W + 65 ≤ R.locals) :
    Back l R p e below s args New1.yN len W (fun P a => a = #[.ref x, .ref b] ∧ P.U.heap = h ∧ P.cells + 1 ≤ R.cells ∧ P.slots + cs.length ≤ R.slots)
      (fun P _ v B => ∃ L, QA Z x zn cs h v B.U.heap L ∧ B.locs = P.locs ++ L ∧ B.cells = P.cells + 1 ∧ B.slots = P.slots + cs.length) := by
  obtain ⟨A, K1, K2, K3, K4, K5, K6⟩ := K
  have e : A.slots.size = cs.length := K3.trans hlen
  have hat : ∀ (i : Nat) (hi : i < cs.length), A.slots[i]? = some (.int cs[i]) := fun i hi => by rw [K5 i (by omega)]; simp [List.getD_eq_getElem?_getD, hi]
  have hcv : ∀ (i : Nat) (hi : i < cs.length), cv A i = cs[i] := fun i hi => by unfold cv; rw [hat i hi]
  have hty : Typed .char A := fun i v hv => by
    have hi : i < A.slots.size := (Array.getElem?_eq_some_iff.mp hv).1
    have q := K5 i hi
    rw [hv] at q
    rw [Option.some.inj q]
    exact K6 i hi
  refine Back.mono (back hZ hw wi E V C K1 hty S hz (by omega) (by omega) (fun i hi => by rw [hcv i (by omega)]; exact hall _ (List.getElem_mem _)) hfr hlo) (fun P a hp => ⟨hp.1, hp.2.1, hp.2.2.1, by rw [e]; exact hp.2.2.2⟩) (fun P a v B hp hq => ?_)
  obtain ⟨L, ⟨q1, q2, q3, q4, q5, q6, q7, ⟨V', v1, v2, v3, v4, v5⟩, q9⟩, hl, hc, hs⟩ := hq
  refine ⟨L, ⟨q1, q2, q3, q4, q5, q6, q7, ⟨V'.cls, v3, V', v1, rfl, by rw [v4, e, hlen], K4, fun i hi => ?_, fun i hi => ?_⟩, q9⟩, hl, hc, by rw [hs, e]⟩
  · have hi' : i < cs.length := by omega
    rw [v5 i (by omega), hcv i hi']; simp [List.getD_eq_getElem?_getD, hi']
  · have hi' : i < cs.length := by omega
    simp only [List.getD_eq_getElem?_getD, List.getElem?_map, List.getElem?_eq_getElem hi', Option.map_some, Option.getD_some]
    exact fits_lo8 _
end StrChars.Road
namespace StrChars.Road
open Jvm Sem ClassFile Op Lib Jvm.Stand Jvm.Free Jvm.Free.XT
/-- WHAT COMES BACK, in the writer's own shape -/
def QV (Z : State) (x : Addr) (N : Int32) (bs : List Int32) (h : Heap) (n0 : Nat) (v : Option Value) (h' : Heap) (L : List Loc) : Prop := v = none ∧ RoadKit.Fr n0 L ∧ RoadKit.Keep h h' [x] ∧ RoadKit.Exa Z h' x ST ∧ RoadKit.Fld Z h' x ST "coder" "B" (.int 0) ∧
  ∃ (t : Addr) (kb : ClassId), n0 ≤ t ∧ h.size ≤ t ∧ ¬ t = x ∧ RoadKit.Fld Z h' x ST "value" "[B" (.ref t) ∧ RoadKit.Arv Z h' t kb .byte N (bs.map Value.int) (.int 0)
/-- **new String(chars) AT A CALL, FOR THE WRITER**: a char[] of n known ints, each 0 to 255 -/
theorem backV {p : Program} {l : Launch} {e : Env} {R : Room} {s : State} {args : Array Value} {below : List Frame} {len W : Nat} {Z : State} {a0 : Array Value} {h : Heap} (hZ : Z.Warmed39 s.vm) (hw : ∀ d ∈ words, d.before a0 Z = true) {kI : Nat} (wi : (Jvm.Cond.instantiable ST kI).before a0 Z = true)
    {x b : Addr} {kC : ClassId} {cs bs : List Int32} {d v0 c0 : Value} {z N : Int32} {n n0 : Nat} (hx0 : n0 ≤ x) (hh0 : n0 ≤ h.size) (E : RoadKit.Exa Z h x ST) (V : RoadKit.Fld Z h x ST "value" "[B" v0) (C : RoadKit.Fld Z h x ST "coder" "B" c0) (K : RoadKit.Arv Z h b kC .char N (cs.map Value.int) d) (S : RoadKit.Sta Z h ST "COMPACT_STRINGS" "Z" (.int z)) (hz : ¬ z = 0)
    (hn : cs.length = n) (hN : N = Int32.ofNat n) (l0 : 0 < n) (l2 : n ≤ 4000) (hp : ∀ c ∈ cs, ¬ c < 0 ∧ ¬ (255 : Int32) < c) (hb : bs = cs.map (fun c => c.toInt8.toInt32)) (hfr : 4 ≤ R.frames) (hlo : W + 65 ≤ R.locals) :
    Back l R p e below s args (⟨"java/lang/String", "<init>", "([C)V"⟩ : MethodName) len W (fun P a => a = #[.ref x, .ref b] ∧ P.U.heap = h ∧ P.cells + 1 ≤ R.cells ∧ P.slots + n ≤ R.slots)
      (fun P _ v B => ∃ L, QV Z x N bs h n0 v B.U.heap L ∧ B.locs = P.locs ++ L ∧ B.cells = P.cells + 1 ∧ B.slots = P.slots + n) := by
  subst hn hN hb
  refine Back.mono (backArv hZ hw wi E V C K S hz (n32 (by omega)) l0 (by omega) (fun c hc => (hp c hc).2) hfr hlo) (fun P a hp => hp) (fun P a v B hp hq => ?_)
  obtain ⟨L, ⟨q1, q2, q3, q4, q5, q6, q7, ⟨kb, v1, v2⟩, q9⟩, hl, hc, hs⟩ := hq
  exact ⟨L, ⟨q1, fun y hy => by rw [q2 y hy]; exact hx0, q3, q5, q7, h.size, kb, hh0, Nat.le_refl _, Nat.ne_of_gt E.lt, q6, by rw [List.map_map]; exact v2⟩, hl, hc, hs⟩
end StrChars.Road
end Jvm.Pilot.@@N@@

namespace Jvm.Pilot.@@N@@
open Jvm Jvm.ClassFile Sem Op Lib Jvm.Free Jvm.Stand Jvm.LawKit Jvm.RoadKit Bundle Jvm.Pilot.@@N@@.Jvm.D
section OwnRet
variable {p : Program} {l : Launch} {e : Env} {R : Room} {s : State} {m : MethodId} {args : Array Value} {below : List Frame} {meth : Method} {c : Code} {T : State} {locs : List Loc} {cells slots : Nat}
theorem own_retI (X : Stand p l e R s m args below meth c T locs cells slots) (hx : p.tables.exec = Jvm.exec) {pc : Nat} {Ls : Array Slot} {z : Int32} {rest : List Value} (hret : meth.sig.returnType = some .int) (hd : decode c.code pc = .ok (.ireturn, 1)) {fs : List Frame}
    (hl : ∀ (f : JFrame) (acts : List Action), f.method = m → f.locked = none → f.entered = [] → (doReturn e (T.setTop f) acts (some (.int z))).1 = T.setFrames fs) : Steps p.tables e below (T.setTop (mkF m pc Ls (.int z :: rest))) (T.setFrames fs) := retOut X hx hret rfl (Or.inl ⟨rfl, Or.inl rfl, _, rfl⟩) hd hl
end OwnRet
theorem own_cR (x : Nat) : (Value.ref x).category = 1 := rfl
theorem own_cI (x : Int32) : (Value.int x).category = 1 := rfl
theorem own_cJ (x : Int64) : (Value.long x).category = 2 := rfl
theorem own_cN : Value.null.category = 1 := rfl
theorem own_cat {v : Value} (h : v.isRef = true) : v.category = 1 := by rcases ref_cases h with q | ⟨_, q⟩ <;> subst q <;> rfl
theorem own_c255 (x : Int32) : ¬ (x &&& 255) < 0 ∧ ¬ (255 : Int32) < (x &&& 255) := by
  have h := c_and x 255 (by decide)
  rw [Int32.lt_iff_toInt_lt, Int32.lt_iff_toInt_lt]
  have e0 : (0 : Int32).toInt = 0 := rfl
  have e1 : (255 : Int32).toInt = 255 := rfl
  omega
theorem own_up {cs : List Int32} (h : ∀ c ∈ cs, ¬ c < 0 ∧ ¬ (255 : Int32) < c) : ∀ c ∈ cs, ¬ c < 0 ∧ ¬ (65535 : Int32) < c := fun c hc => ⟨(h c hc).1, fun q => (h c hc).2 (by
  rw [Int32.lt_iff_toInt_lt] at q ⊢
  have e0 : (65535 : Int32).toInt = 65535 := rfl
  have e1 : (255 : Int32).toInt = 255 := rfl
  omega)⟩
theorem own_nc {x : Int32} (h0 : ¬ x < 0) (h1 : ¬ (255 : Int32) < x) : nar .char x = x := by
  show x.toUInt32.toUInt16.toUInt32.toInt32 = x
  have h := c_i2c x
  rw [Int32.lt_iff_toInt_lt] at h0 h1
  have e0 : (0 : Int32).toInt = 0 := rfl
  have e1 : (255 : Int32).toInt = 255 := rfl
  exact Int32.toInt_inj.mp (by omega)
theorem own_nb (x : Int32) : nar .byte (x.toInt8.toInt32) = x.toInt8.toInt32 := by simp [nar]
theorem own_i2c {x : Int32} (h0 : ¬ x < 0) (h1 : ¬ (255 : Int32) < x) : x.toUInt32.toUInt16.toUInt32.toInt32 = x := own_nc h0 h1
theorem own_op_i2b {tb : Tables} [Ours tb] {e : Env} {below : List Frame} {T target : State} {m : MethodId} {c : Code} {g : JFrame} (h : At T m c below) (hx : tb.exec = Jvm.exec) (hg : g.method = m) {x : Int32} {rest : List Value} (hd : decode c.code g.pc = .ok (.i2b, 1)) (hs : g.stack = .int x :: rest) {z : Int32} (hz : x.toInt8.toInt32 = z) (hr : Steps tb e below (T.setTop { g with pc := g.pc + 1, stack := .int z :: rest }) target) : Steps tb e below (T.setTop g) target := by
  subst hz; exact XS.i2b h hx hg hd hs hr
theorem own_op_i2c {tb : Tables} [Ours tb] {e : Env} {below : List Frame} {T target : State} {m : MethodId} {c : Code} {g : JFrame} (h : At T m c below) (hx : tb.exec = Jvm.exec) (hg : g.method = m) {x : Int32} {rest : List Value} (hd : decode c.code g.pc = .ok (.i2c, 1)) (hs : g.stack = .int x :: rest) {z : Int32} (hz : x.toUInt32.toUInt16.toUInt32.toInt32 = z) (hr : Steps tb e below (T.setTop { g with pc := g.pc + 1, stack := .int z :: rest }) target) : Steps tb e below (T.setTop g) target := by
  subst hz; exact XS.i2c h hx hg hd hs hr
theorem own_op_iadd {tb : Tables} [Ours tb] {e : Env} {below : List Frame} {T target : State} {m : MethodId} {c : Code} {g : JFrame} (h : At T m c below) (hx : tb.exec = Jvm.exec) (hg : g.method = m) {x y : Int32} {rest : List Value} (hd : decode c.code g.pc = .ok (.iadd, 1)) (hs : g.stack = .int y :: .int x :: rest) {z : Int32} (hz : x + y = z) (hr : Steps tb e below (T.setTop { g with pc := g.pc + 1, stack := .int z :: rest }) target) : Steps tb e below (T.setTop g) target := by
  subst hz; exact XS.iadd h hx hg hd hs hr
theorem own_op_iand {tb : Tables} [Ours tb] {e : Env} {below : List Frame} {T target : State} {m : MethodId} {c : Code} {g : JFrame} (h : At T m c below) (hx : tb.exec = Jvm.exec) (hg : g.method = m) {x y : Int32} {rest : List Value} (hd : decode c.code g.pc = .ok (.iand, 1)) (hs : g.stack = .int y :: .int x :: rest) {z : Int32} (hz : x &&& y = z) (hr : Steps tb e below (T.setTop { g with pc := g.pc + 1, stack := .int z :: rest }) target) : Steps tb e below (T.setTop g) target := by
  subst hz; exact XS.iand h hx hg hd hs hr
theorem own_op_iushr {tb : Tables} [Ours tb] {e : Env} {below : List Frame} {T target : State} {m : MethodId} {c : Code} {g : JFrame} (h : At T m c below) (hx : tb.exec = Jvm.exec) (hg : g.method = m) {x y : Int32} {rest : List Value} (hd : decode c.code g.pc = .ok (.iushr, 1)) (hs : g.stack = .int y :: .int x :: rest) {z : Int32} (hz : ((x.toUInt32 >>> (y &&& 31).toUInt32).toInt32) = z) (hr : Steps tb e below (T.setTop { g with pc := g.pc + 1, stack := .int z :: rest }) target) : Steps tb e below (T.setTop g) target := by
  subst hz; exact XS.iushr h hx hg hd hs hr
theorem own_hws {a0 : Array Value} {Z : State} (hw : ∀ d ∈ tables_1, d.before a0 Z = true) : ∀ d ∈ StrChars.Road.words, d.before a0 Z = true := fun d hd => hw d ((by decide +kernel : ∀ d ∈ StrChars.Road.words, d ∈ tables_1) d hd)
theorem own_eqI {args : Array Value} {s : State} {t : Term} {k : Int32} (h : (Jvm.Cond.eq t (Term.int k)).value args s none s [] = some true) : t.eval args s none [] s = some (.int k) := by
  obtain ⟨x, y, ha, hb, k1, k2⟩ := cmp_v (Or.inl h)
  have e : y = .int k := Option.some.inj (hb.symm.trans (Term.int_eval k))
  subst e
  obtain ⟨z, rfl⟩ := k2
  rw [ha, gotT (Cond.eq_ints ha hb) h]
theorem own_eqR {args : Array Value} {s : State} {t u : Term} {b : Addr} (h : (Jvm.Cond.eq t u).value args s none s [] = some true) (hu : u.eval args s none [] s = some (.ref b)) : t.eval args s none [] s = some (.ref b) := by
  obtain ⟨x, y, ha, hb, k1, k2⟩ := cmp_v (Or.inl h)
  have e : y = .ref b := Option.some.inj (hb.symm.trans hu)
  subst e
  have q := gotT (eq_R ha hb k2.2 k2.1) h
  rw [ha, q]
theorem own_len {args : Array Value} {s : State} {t : Term} {a : Addr} {cl : Cell} {ty : FieldType} {n : Int32} (ev : t.eval args s none [] s = some (.ref a)) (A : Arr s s.heap a cl ty) (h : (Term.length t).eval args s none [] s = some (.int n)) : cl.slots.size < 2 ^ 31 ∧ cl.slots.size.toInt32 = n := by
  have ha : s.arrayAt? a = some cl := Arr.fin (Vm.Alike.refl _) A
  by_cases q : cl.slots.size < 2 ^ 31
  · rw [len_f ev ha q] at h
    exact ⟨q, by simpa using h⟩
  · simp [Term.eval, ev, ha, q] at h
theorem own_NSroot {Z : State} {a0 : Array Value} {O K : String} {n : Nat} (w : (Jvm.Cond.noSuperclass O).before a0 Z = true) (wk : (Jvm.Cond.instantiable K n).before a0 Z = true) (hn : O ≠ K) : NS Z O K := by
  obtain ⟨c, k, h1, h2, h3, -, -⟩ := Cond.noSuperclass_spec w
  obtain ⟨t, k', g1, -⟩ := Cond.instantiable_spec wk
  have ne := ids_ne h1 g1 hn
  exact ⟨c, t, h1, g1, fun fuel => by cases fuel <;> simp [Vm.isSubclassAux, ne, h2, h3]⟩
theorem own_NSno {Z : State} {a0 : Array Value} {C S K : String} {n : Nat} (w : (Jvm.Cond.superclass C S).before a0 Z = true) (wk : (Jvm.Cond.instantiable K n).before a0 Z = true) (N : NS Z C K) (hn : C ≠ K) : ∃ c t, Z.vm.findClass C = some c ∧ Z.vm.findClass K = some t ∧ Z.vm.assignable c t = false := by
  obtain ⟨c, t, h0, g0, n3⟩ := N
  obtain ⟨p, k, kp, h1, h2, h3, h4, h5, -, h7⟩ := Cond.superclass_spec h0 w
  obtain ⟨t', k', i1, i2, i3, i4, -⟩ := Cond.instantiable_spec wk
  cases g0.symm.trans i1
  simp only [Bool.or_eq_false_iff] at i4
  have ne := ids_ne h0 g0 hn
  refine ⟨c, t, h0, g0, ?_⟩
  show Z.vm.assignableAux (255 + 1) c t = false
  simp [Vm.assignableAux, ne, h2, i2, h5, i3, i4.1, Vm.isSubclass, n3]
def own_Mir (Z : State) (C : String) (m : Addr) : Prop := ∃ (c : ClassId) (k : Class), Z.vm.findClass C = some c ∧ Z.vm.classes[c]? = some k ∧ k.mirror = some m
section OwnMir
variable {p : Program} {l : Launch} {e : Env} {R : Room} {s : State} {m : MethodId} {args : Array Value} {below : List Frame} {meth : Method} {c : Code} {T : State} {locs : List Loc} {cells slots : Nat} {Z : State} {a0 : Array Value} {h : Heap} {a : Addr}
theorem own_gcls (X : Stand p l e R s m args below meth c T locs cells slots) (hx : p.tables.exec = Jvm.exec) (hZ : Z.Warmed39 s.vm) {own C : String} {index : Nat} (hown : s.vm.findClass own = some m.cls)
    (w1 : (Jvm.Cond.methodLink own index ⟨"java/lang/Object", "getClass", "()Ljava/lang/Class;"⟩).before a0 Z = true) (w2 : (Jvm.Cond.declares ⟨"java/lang/Object", "getClass", "()Ljava/lang/Class;"⟩).before a0 Z = true) (w3 : (Jvm.Cond.noSuperclass "java/lang/Object").before a0 Z = true) (w4 : (Jvm.Cond.selects C ⟨"java/lang/Object", "getClass", "()Ljava/lang/Class;"⟩ ⟨"java/lang/Object", "getClass", "()Ljava/lang/Class;"⟩).before a0 Z = true)
    (w5 : (Jvm.Cond.instanceMethod ⟨"java/lang/Object", "getClass", "()Ljava/lang/Class;"⟩).before a0 Z = true) (w6 : (Jvm.Cond.native ⟨"java/lang/Object", "getClass", "()Ljava/lang/Class;"⟩).before a0 Z = true) (eT : T.heap = h) (E : Exa Z h a C) {mr : Addr} (M : own_Mir Z C mr)
    {g : JFrame} (hg : g.method = m) (hsize : g.locals.size = c.maxLocals) {rest : List Value} (hs : g.stack = .ref a :: rest) (hd : decode c.code g.pc = .ok (.invokevirtual index, 3)) (hf : 1 ≤ R.frames) {W : Nat} (hW : 2 * g.monitorRoom + (rest.map fun v => v.category).sum ≤ W) (hl : W + (nativeFrameWords "java/lang/Object" "getClass" 1 + 11) ≤ R.locals) :
    ∃ T', Stand p l e R s m args below meth c T' locs cells slots ∧ T'.heap = h ∧ ∀ target, Steps p.tables e below (T'.setTop { g with pc := g.pc + 3, stack := .ref mr :: rest }) target → Steps p.tables e below (T.setTop g) target := by
  obtain ⟨cB, kB, i1, i2, i3⟩ := isOf hZ eT E
  obtain ⟨cc, kc, m1, m2, m3⟩ := M
  obtain ⟨k', q, ek⟩ := hZ.alike.2.2 _ _ m2
  have j1 : s.vm.findClass C = some cc := by rw [hZ.alike.findClass]; exact m1
  cases i1.symm.trans j1
  obtain ⟨vm', X', st⟩ := X.getClassOf hx hown (mvT hZ w1) (mvT hZ w2) (nf_top (args := #[]) (mvT hZ w3)) (mvT hZ w4) (mvT hZ w5) (mvT hZ w6) j1 i3 q (by rw [ek]; exact m3) hg hsize hs hd hf (by omega)
  exact ⟨_, X', eT, st⟩
theorem own_ldcM (X : Stand p l e R s m args below meth c T locs cells slots) (hx : p.tables.exec = Jvm.exec) (hZ : Z.Warmed39 s.vm) {own C : String} {index : Nat} (hown : s.vm.findClass own = some m.cls) (w : (Jvm.Cond.classLink own index C).before a0 Z = true) (eT : T.heap = h) {mr : Addr} (M : own_Mir Z C mr)
    {g : JFrame} (hg : g.method = m) (hd : decode c.code g.pc = .ok (.ldc index, 2)) :
    ∃ T', Stand p l e R s m args below meth c T' locs cells slots ∧ T'.heap = h ∧ ∀ target, Steps p.tables e below (T'.setTop { g with pc := g.pc + 2, stack := .ref mr :: g.stack }) target → Steps p.tables e below (T.setTop g) target := by
  obtain ⟨cc, kc, m1, m2, m3⟩ := M
  obtain ⟨k', q, ek⟩ := hZ.alike.2.2 _ _ m2
  have j1 : s.vm.findClass C = some cc := by rw [hZ.alike.findClass]; exact m1
  have hm : k'.mirror = some mr := by rw [ek]; exact m3
  obtain ⟨vm', X', st⟩ := X.ldcMirror hx hown (mvT hZ w) (C := C) (a := mr) (by simp [Term.eval, j1, q, hm]) hg hd
  exact ⟨_, X', eT, st⟩
end OwnMir
-- table words
theorem tw0 {a0 : Array Value} {Z : State} (hw : ∀ d ∈ tables_1, d.before a0 Z = true) : (Jvm.Cond.classLink "com/example/fetcher/client/ReceivedIsErrorPinLaw" (7 : Nat) "java/lang/String").before a0 Z = true := hw _ (List.mem_of_getElem? (i := 0) rfl)
theorem tw1 {a0 : Array Value} {Z : State} (hw : ∀ d ∈ tables_1, d.before a0 Z = true) : (Jvm.Cond.instantiable "java/lang/String" (4 : Nat)).before a0 Z = true := hw _ (List.mem_of_getElem? (i := 1) rfl)
theorem tw2 {a0 : Array Value} {Z : State} (hw : ∀ d ∈ tables_1, d.before a0 Z = true) : (Jvm.Cond.initialized "java/lang/String").before a0 Z = true := hw _ (List.mem_of_getElem? (i := 2) rfl)
theorem tw3 {a0 : Array Value} {Z : State} (hw : ∀ d ∈ tables_1, d.before a0 Z = true) : (Jvm.Cond.arrayClass Jvm.ClassFile.FieldType.char).before a0 Z = true := hw _ (List.mem_of_getElem? (i := 3) rfl)
theorem tw4 {a0 : Array Value} {Z : State} (hw : ∀ d ∈ tables_1, d.before a0 Z = true) : (Jvm.Cond.methodLink "com/example/fetcher/client/ReceivedIsErrorPinLaw" (9 : Nat) ({ cls := "java/lang/String", name := "<init>", desc := "([C)V" } : Jvm.MethodName)).before a0 Z = true := hw _ (List.mem_of_getElem? (i := 4) rfl)
theorem tw5 {a0 : Array Value} {Z : State} (hw : ∀ d ∈ tables_1, d.before a0 Z = true) : (Jvm.Cond.instanceMethod ({ cls := "java/lang/String", name := "<init>", desc := "([C)V" } : Jvm.MethodName)).before a0 Z = true := hw _ (List.mem_of_getElem? (i := 5) rfl)
theorem tw6 {a0 : Array Value} {Z : State} (hw : ∀ d ∈ tables_1, d.before a0 Z = true) : (Jvm.Cond.code ({ cls := "java/lang/String", name := "<init>", desc := "([C)V" } : Jvm.MethodName) jdk_42_method_3_code (2 : Nat) (Option.none : Option Jvm.ClassFile.FieldType)).before a0 Z = true := hw _ (List.mem_of_getElem? (i := 6) rfl)
theorem tw11 {a0 : Array Value} {Z : State} (hw : ∀ d ∈ tables_1, d.before a0 Z = true) : (Jvm.Cond.methodLink "java/lang/String" (1 : Nat) ({ cls := "java/lang/Object", name := "<init>", desc := "()V" } : Jvm.MethodName)).before a0 Z = true := hw _ (List.mem_of_getElem? (i := 11) rfl)
theorem tw12 {a0 : Array Value} {Z : State} (hw : ∀ d ∈ tables_1, d.before a0 Z = true) : (Jvm.Cond.instanceMethod ({ cls := "java/lang/Object", name := "<init>", desc := "()V" } : Jvm.MethodName)).before a0 Z = true := hw _ (List.mem_of_getElem? (i := 12) rfl)
theorem tw13 {a0 : Array Value} {Z : State} (hw : ∀ d ∈ tables_1, d.before a0 Z = true) : (Jvm.Cond.code ({ cls := "java/lang/Object", name := "<init>", desc := "()V" } : Jvm.MethodName) object_method_1_code (1 : Nat) (Option.none : Option Jvm.ClassFile.FieldType)).before a0 Z = true := hw _ (List.mem_of_getElem? (i := 13) rfl)
theorem tw14 {a0 : Array Value} {Z : State} (hw : ∀ d ∈ tables_1, d.before a0 Z = true) : (Jvm.Cond.fieldLink "java/lang/String" (38 : Nat) "java/lang/String" "COMPACT_STRINGS" "Z").before a0 Z = true := hw _ (List.mem_of_getElem? (i := 14) rfl)
theorem tw19 {a0 : Array Value} {Z : State} (hw : ∀ d ∈ tables_1, d.before a0 Z = true) : (Jvm.Cond.arrayClass Jvm.ClassFile.FieldType.byte).before a0 Z = true := hw _ (List.mem_of_getElem? (i := 19) rfl)
theorem tw26 {a0 : Array Value} {Z : State} (hw : ∀ d ∈ tables_1, d.before a0 Z = true) : (Jvm.Cond.fieldLink "java/lang/String" (15 : Nat) "java/lang/String" "coder" "B").before a0 Z = true := hw _ (List.mem_of_getElem? (i := 26) rfl)
theorem tw27 {a0 : Array Value} {Z : State} (hw : ∀ d ∈ tables_1, d.before a0 Z = true) : (Jvm.Cond.laysFinal "java/lang/String" "java/lang/String" "coder" "B").before a0 Z = true := hw _ (List.mem_of_getElem? (i := 27) rfl)
theorem tw28 {a0 : Array Value} {Z : State} (hw : ∀ d ∈ tables_1, d.before a0 Z = true) : (Jvm.Cond.fieldLink "java/lang/String" (9 : Nat) "java/lang/String" "value" "[B").before a0 Z = true := hw _ (List.mem_of_getElem? (i := 28) rfl)
theorem tw29 {a0 : Array Value} {Z : State} (hw : ∀ d ∈ tables_1, d.before a0 Z = true) : (Jvm.Cond.laysFinal "java/lang/String" "java/lang/String" "value" "[B").before a0 Z = true := hw _ (List.mem_of_getElem? (i := 29) rfl)
theorem tw30 {a0 : Array Value} {Z : State} (hw : ∀ d ∈ tables_1, d.before a0 Z = true) : (Jvm.Cond.methodLink "com/example/fetcher/client/ReceivedIsErrorPinLaw" (12 : Nat) ({ cls := "java/lang/String", name := "valueOf", desc := "(C)Ljava/lang/String;" } : Jvm.MethodName)).before a0 Z = true := hw _ (List.mem_of_getElem? (i := 30) rfl)
theorem tw31 {a0 : Array Value} {Z : State} (hw : ∀ d ∈ tables_1, d.before a0 Z = true) : (Jvm.Cond.static ({ cls := "java/lang/String", name := "valueOf", desc := "(C)Ljava/lang/String;" } : Jvm.MethodName)).before a0 Z = true := hw _ (List.mem_of_getElem? (i := 31) rfl)
theorem tw32 {a0 : Array Value} {Z : State} (hw : ∀ d ∈ tables_1, d.before a0 Z = true) : (Jvm.Cond.code ({ cls := "java/lang/String", name := "valueOf", desc := "(C)Ljava/lang/String;" } : Jvm.MethodName) jdk_42_method_139_code (1 : Nat) (Option.some (Jvm.ClassFile.FieldType.object "java/lang/String"))).before a0 Z = true := hw _ (List.mem_of_getElem? (i := 32) rfl)
theorem tw33 {a0 : Array Value} {Z : State} (hw : ∀ d ∈ tables_1, d.before a0 Z = true) : (Jvm.Cond.methodLink "java/lang/String" (1015 : Nat) ({ cls := "java/lang/StringLatin1", name := "canEncode", desc := "(C)Z" } : Jvm.MethodName)).before a0 Z = true := hw _ (List.mem_of_getElem? (i := 33) rfl)
theorem tw34 {a0 : Array Value} {Z : State} (hw : ∀ d ∈ tables_1, d.before a0 Z = true) : (Jvm.Cond.static ({ cls := "java/lang/StringLatin1", name := "canEncode", desc := "(C)Z" } : Jvm.MethodName)).before a0 Z = true := hw _ (List.mem_of_getElem? (i := 34) rfl)
theorem tw35 {a0 : Array Value} {Z : State} (hw : ∀ d ∈ tables_1, d.before a0 Z = true) : (Jvm.Cond.initialized "java/lang/StringLatin1").before a0 Z = true := hw _ (List.mem_of_getElem? (i := 35) rfl)
theorem tw36 {a0 : Array Value} {Z : State} (hw : ∀ d ∈ tables_1, d.before a0 Z = true) : (Jvm.Cond.code ({ cls := "java/lang/StringLatin1", name := "canEncode", desc := "(C)Z" } : Jvm.MethodName) jdk_43_method_3_code (1 : Nat) (Option.some Jvm.ClassFile.FieldType.boolean)).before a0 Z = true := hw _ (List.mem_of_getElem? (i := 36) rfl)
theorem tw37 {a0 : Array Value} {Z : State} (hw : ∀ d ∈ tables_1, d.before a0 Z = true) : (Jvm.Cond.classLink "java/lang/String" (10 : Nat) "java/lang/String").before a0 Z = true := hw _ (List.mem_of_getElem? (i := 37) rfl)
theorem tw38 {a0 : Array Value} {Z : State} (hw : ∀ d ∈ tables_1, d.before a0 Z = true) : (Jvm.Cond.methodLink "java/lang/String" (1018 : Nat) ({ cls := "java/lang/StringLatin1", name := "toBytes", desc := "(C)[B" } : Jvm.MethodName)).before a0 Z = true := hw _ (List.mem_of_getElem? (i := 38) rfl)
theorem tw39 {a0 : Array Value} {Z : State} (hw : ∀ d ∈ tables_1, d.before a0 Z = true) : (Jvm.Cond.static ({ cls := "java/lang/StringLatin1", name := "toBytes", desc := "(C)[B" } : Jvm.MethodName)).before a0 Z = true := hw _ (List.mem_of_getElem? (i := 39) rfl)
theorem tw40 {a0 : Array Value} {Z : State} (hw : ∀ d ∈ tables_1, d.before a0 Z = true) : (Jvm.Cond.code ({ cls := "java/lang/StringLatin1", name := "toBytes", desc := "(C)[B" } : Jvm.MethodName) jdk_43_method_46_code (1 : Nat) (Option.some (Jvm.ClassFile.FieldType.array Jvm.ClassFile.FieldType.byte))).before a0 Z = true := hw _ (List.mem_of_getElem? (i := 40) rfl)
theorem tw41 {a0 : Array Value} {Z : State} (hw : ∀ d ∈ tables_1, d.before a0 Z = true) : (Jvm.Cond.methodLink "java/lang/String" (209 : Nat) ({ cls := "java/lang/String", name := "<init>", desc := "([BB)V" } : Jvm.MethodName)).before a0 Z = true := hw _ (List.mem_of_getElem? (i := 41) rfl)
theorem tw42 {a0 : Array Value} {Z : State} (hw : ∀ d ∈ tables_1, d.before a0 Z = true) : (Jvm.Cond.instanceMethod ({ cls := "java/lang/String", name := "<init>", desc := "([BB)V" } : Jvm.MethodName)).before a0 Z = true := hw _ (List.mem_of_getElem? (i := 42) rfl)
theorem tw43 {a0 : Array Value} {Z : State} (hw : ∀ d ∈ tables_1, d.before a0 Z = true) : (Jvm.Cond.code ({ cls := "java/lang/String", name := "<init>", desc := "([BB)V" } : Jvm.MethodName) jdk_42_method_151_code (3 : Nat) (Option.none : Option Jvm.ClassFile.FieldType)).before a0 Z = true := hw _ (List.mem_of_getElem? (i := 43) rfl)
theorem tw44 {a0 : Array Value} {Z : State} (hw : ∀ d ∈ tables_1, d.before a0 Z = true) : (Jvm.Cond.methodLink "com/example/fetcher/client/ReceivedIsErrorPinLaw" (16 : Nat) ({ cls := "com/example/fetcher/client/Received", name := "error", desc := "(Ljava/lang/String;Ljava/lang/String;Ljava/lang/String;)Lcom/example/fetcher/client/Received;" } : Jvm.MethodName)).before a0 Z = true := hw _ (List.mem_of_getElem? (i := 44) rfl)
theorem tw45 {a0 : Array Value} {Z : State} (hw : ∀ d ∈ tables_1, d.before a0 Z = true) : (Jvm.Cond.static ({ cls := "com/example/fetcher/client/Received", name := "error", desc := "(Ljava/lang/String;Ljava/lang/String;Ljava/lang/String;)Lcom/example/fetcher/client/Received;" } : Jvm.MethodName)).before a0 Z = true := hw _ (List.mem_of_getElem? (i := 45) rfl)
theorem tw46 {a0 : Array Value} {Z : State} (hw : ∀ d ∈ tables_1, d.before a0 Z = true) : (Jvm.Cond.initialized "com/example/fetcher/client/Received").before a0 Z = true := hw _ (List.mem_of_getElem? (i := 46) rfl)
theorem tw47 {a0 : Array Value} {Z : State} (hw : ∀ d ∈ tables_1, d.before a0 Z = true) : (Jvm.Cond.code ({ cls := "com/example/fetcher/client/Received", name := "error", desc := "(Ljava/lang/String;Ljava/lang/String;Ljava/lang/String;)Lcom/example/fetcher/client/Received;" } : Jvm.MethodName) prog_4_method_3_code (3 : Nat) (Option.some (Jvm.ClassFile.FieldType.object "com/example/fetcher/client/Received"))).before a0 Z = true := hw _ (List.mem_of_getElem? (i := 47) rfl)
theorem tw48 {a0 : Array Value} {Z : State} (hw : ∀ d ∈ tables_1, d.before a0 Z = true) : (Jvm.Cond.classLink "com/example/fetcher/client/Received" (2 : Nat) "com/example/fetcher/client/Received").before a0 Z = true := hw _ (List.mem_of_getElem? (i := 48) rfl)
theorem tw49 {a0 : Array Value} {Z : State} (hw : ∀ d ∈ tables_1, d.before a0 Z = true) : (Jvm.Cond.instantiable "com/example/fetcher/client/Received" (7 : Nat)).before a0 Z = true := hw _ (List.mem_of_getElem? (i := 49) rfl)
theorem tw50 {a0 : Array Value} {Z : State} (hw : ∀ d ∈ tables_1, d.before a0 Z = true) : (Jvm.Cond.methodLink "com/example/fetcher/client/Received" (47 : Nat) ({ cls := "java/util/List", name := "of", desc := "()Ljava/util/List;" } : Jvm.MethodName)).before a0 Z = true := hw _ (List.mem_of_getElem? (i := 50) rfl)
theorem tw51 {a0 : Array Value} {Z : State} (hw : ∀ d ∈ tables_1, d.before a0 Z = true) : (Jvm.Cond.static ({ cls := "java/util/List", name := "of", desc := "()Ljava/util/List;" } : Jvm.MethodName)).before a0 Z = true := hw _ (List.mem_of_getElem? (i := 51) rfl)
theorem tw52 {a0 : Array Value} {Z : State} (hw : ∀ d ∈ tables_1, d.before a0 Z = true) : (Jvm.Cond.initialized "java/util/List").before a0 Z = true := hw _ (List.mem_of_getElem? (i := 52) rfl)
theorem tw53 {a0 : Array Value} {Z : State} (hw : ∀ d ∈ tables_1, d.before a0 Z = true) : (Jvm.Cond.code ({ cls := "java/util/List", name := "of", desc := "()Ljava/util/List;" } : Jvm.MethodName) jdk_40_method_36_code (0 : Nat) (Option.some (Jvm.ClassFile.FieldType.object "java/util/List"))).before a0 Z = true := hw _ (List.mem_of_getElem? (i := 53) rfl)
theorem tw54 {a0 : Array Value} {Z : State} (hw : ∀ d ∈ tables_1, d.before a0 Z = true) : (Jvm.Cond.fieldLink "java/util/List" (90 : Nat) "java/util/ImmutableCollections" "EMPTY_LIST" "Ljava/util/ImmutableCollections$ListN;").before a0 Z = true := hw _ (List.mem_of_getElem? (i := 54) rfl)
theorem tw55 {a0 : Array Value} {Z : State} (hw : ∀ d ∈ tables_1, d.before a0 Z = true) : (Jvm.Cond.initialized "java/util/ImmutableCollections").before a0 Z = true := hw _ (List.mem_of_getElem? (i := 55) rfl)
theorem tw56 {a0 : Array Value} {Z : State} (hw : ∀ d ∈ tables_1, d.before a0 Z = true) : (Jvm.Cond.methodLink "com/example/fetcher/client/Received" (51 : Nat) ({ cls := "java/util/Set", name := "of", desc := "()Ljava/util/Set;" } : Jvm.MethodName)).before a0 Z = true := hw _ (List.mem_of_getElem? (i := 56) rfl)
theorem tw57 {a0 : Array Value} {Z : State} (hw : ∀ d ∈ tables_1, d.before a0 Z = true) : (Jvm.Cond.static ({ cls := "java/util/Set", name := "of", desc := "()Ljava/util/Set;" } : Jvm.MethodName)).before a0 Z = true := hw _ (List.mem_of_getElem? (i := 57) rfl)
theorem tw58 {a0 : Array Value} {Z : State} (hw : ∀ d ∈ tables_1, d.before a0 Z = true) : (Jvm.Cond.initialized "java/util/Set").before a0 Z = true := hw _ (List.mem_of_getElem? (i := 58) rfl)
theorem tw59 {a0 : Array Value} {Z : State} (hw : ∀ d ∈ tables_1, d.before a0 Z = true) : (Jvm.Cond.code ({ cls := "java/util/Set", name := "of", desc := "()Ljava/util/Set;" } : Jvm.MethodName) jdk_96_method_17_code (0 : Nat) (Option.some (Jvm.ClassFile.FieldType.object "java/util/Set"))).before a0 Z = true := hw _ (List.mem_of_getElem? (i := 59) rfl)
theorem tw60 {a0 : Array Value} {Z : State} (hw : ∀ d ∈ tables_1, d.before a0 Z = true) : (Jvm.Cond.fieldLink "java/util/Set" (9 : Nat) "java/util/ImmutableCollections" "EMPTY_SET" "Ljava/util/ImmutableCollections$SetN;").before a0 Z = true := hw _ (List.mem_of_getElem? (i := 60) rfl)
theorem tw61 {a0 : Array Value} {Z : State} (hw : ∀ d ∈ tables_1, d.before a0 Z = true) : (Jvm.Cond.methodLink "com/example/fetcher/client/Received" (1 : Nat) ({ cls := "com/example/fetcher/client/Received", name := "<init>", desc := "(Ljava/lang/String;Ljava/lang/String;Ljava/lang/String;Ljava/util/List;Ljava/util/List;Ljava/util/List;Ljava/util/Set;)V" } : Jvm.MethodName)).before a0 Z = true := hw _ (List.mem_of_getElem? (i := 61) rfl)
theorem tw62 {a0 : Array Value} {Z : State} (hw : ∀ d ∈ tables_1, d.before a0 Z = true) : (Jvm.Cond.instanceMethod ({ cls := "com/example/fetcher/client/Received", name := "<init>", desc := "(Ljava/lang/String;Ljava/lang/String;Ljava/lang/String;Ljava/util/List;Ljava/util/List;Ljava/util/List;Ljava/util/Set;)V" } : Jvm.MethodName)).before a0 Z = true := hw _ (List.mem_of_getElem? (i := 62) rfl)
theorem tw63 {a0 : Array Value} {Z : State} (hw : ∀ d ∈ tables_1, d.before a0 Z = true) : (Jvm.Cond.code ({ cls := "com/example/fetcher/client/Received", name := "<init>", desc := "(Ljava/lang/String;Ljava/lang/String;Ljava/lang/String;Ljava/util/List;Ljava/util/List;Ljava/util/List;Ljava/util/Set;)V" } : Jvm.MethodName) prog_4_method_2_code (8 : Nat) (Option.none : Option Jvm.ClassFile.FieldType)).before a0 Z = true := hw _ (List.mem_of_getElem? (i := 63) rfl)
theorem tw64 {a0 : Array Value} {Z : State} (hw : ∀ d ∈ tables_1, d.before a0 Z = true) : (Jvm.Cond.methodLink "com/example/fetcher/client/Received" (7 : Nat) ({ cls := "java/lang/Object", name := "<init>", desc := "()V" } : Jvm.MethodName)).before a0 Z = true := hw _ (List.mem_of_getElem? (i := 64) rfl)
theorem tw65 {a0 : Array Value} {Z : State} (hw : ∀ d ∈ tables_1, d.before a0 Z = true) : (Jvm.Cond.fieldLink "com/example/fetcher/client/Received" (12 : Nat) "com/example/fetcher/client/Received" "replyTo" "Ljava/lang/String;").before a0 Z = true := hw _ (List.mem_of_getElem? (i := 65) rfl)
theorem tw66 {a0 : Array Value} {Z : State} (hw : ∀ d ∈ tables_1, d.before a0 Z = true) : (Jvm.Cond.laysFinal "com/example/fetcher/client/Received" "com/example/fetcher/client/Received" "replyTo" "Ljava/lang/String;").before a0 Z = true := hw _ (List.mem_of_getElem? (i := 66) rfl)
theorem tw67 {a0 : Array Value} {Z : State} (hw : ∀ d ∈ tables_1, d.before a0 Z = true) : (Jvm.Cond.fieldLink "com/example/fetcher/client/Received" (16 : Nat) "com/example/fetcher/client/Received" "errorCode" "Ljava/lang/String;").before a0 Z = true := hw _ (List.mem_of_getElem? (i := 67) rfl)
theorem tw68 {a0 : Array Value} {Z : State} (hw : ∀ d ∈ tables_1, d.before a0 Z = true) : (Jvm.Cond.laysFinal "com/example/fetcher/client/Received" "com/example/fetcher/client/Received" "errorCode" "Ljava/lang/String;").before a0 Z = true := hw _ (List.mem_of_getElem? (i := 68) rfl)
theorem tw69 {a0 : Array Value} {Z : State} (hw : ∀ d ∈ tables_1, d.before a0 Z = true) : (Jvm.Cond.fieldLink "com/example/fetcher/client/Received" (19 : Nat) "com/example/fetcher/client/Received" "errorText" "Ljava/lang/String;").before a0 Z = true := hw _ (List.mem_of_getElem? (i := 69) rfl)
theorem tw70 {a0 : Array Value} {Z : State} (hw : ∀ d ∈ tables_1, d.before a0 Z = true) : (Jvm.Cond.laysFinal "com/example/fetcher/client/Received" "com/example/fetcher/client/Received" "errorText" "Ljava/lang/String;").before a0 Z = true := hw _ (List.mem_of_getElem? (i := 70) rfl)
theorem tw71 {a0 : Array Value} {Z : State} (hw : ∀ d ∈ tables_1, d.before a0 Z = true) : (Jvm.Cond.methodLink "com/example/fetcher/client/Received" (22 : Nat) ({ cls := "java/util/List", name := "copyOf", desc := "(Ljava/util/Collection;)Ljava/util/List;" } : Jvm.MethodName)).before a0 Z = true := hw _ (List.mem_of_getElem? (i := 71) rfl)
theorem tw72 {a0 : Array Value} {Z : State} (hw : ∀ d ∈ tables_1, d.before a0 Z = true) : (Jvm.Cond.static ({ cls := "java/util/List", name := "copyOf", desc := "(Ljava/util/Collection;)Ljava/util/List;" } : Jvm.MethodName)).before a0 Z = true := hw _ (List.mem_of_getElem? (i := 72) rfl)
theorem tw73 {a0 : Array Value} {Z : State} (hw : ∀ d ∈ tables_1, d.before a0 Z = true) : (Jvm.Cond.code ({ cls := "java/util/List", name := "copyOf", desc := "(Ljava/util/Collection;)Ljava/util/List;" } : Jvm.MethodName) jdk_40_method_48_code (1 : Nat) (Option.some (Jvm.ClassFile.FieldType.object "java/util/List"))).before a0 Z = true := hw _ (List.mem_of_getElem? (i := 73) rfl)
theorem tw74 {a0 : Array Value} {Z : State} (hw : ∀ d ∈ tables_1, d.before a0 Z = true) : (Jvm.Cond.methodLink "java/util/List" (112 : Nat) ({ cls := "java/util/ImmutableCollections", name := "listCopy", desc := "(Ljava/util/Collection;)Ljava/util/List;" } : Jvm.MethodName)).before a0 Z = true := hw _ (List.mem_of_getElem? (i := 74) rfl)
theorem tw75 {a0 : Array Value} {Z : State} (hw : ∀ d ∈ tables_1, d.before a0 Z = true) : (Jvm.Cond.static ({ cls := "java/util/ImmutableCollections", name := "listCopy", desc := "(Ljava/util/Collection;)Ljava/util/List;" } : Jvm.MethodName)).before a0 Z = true := hw _ (List.mem_of_getElem? (i := 75) rfl)
theorem tw76 {a0 : Array Value} {Z : State} (hw : ∀ d ∈ tables_1, d.before a0 Z = true) : (Jvm.Cond.code ({ cls := "java/util/ImmutableCollections", name := "listCopy", desc := "(Ljava/util/Collection;)Ljava/util/List;" } : Jvm.MethodName) jdk_56_method_3_code (2 : Nat) (Option.some (Jvm.ClassFile.FieldType.object "java/util/List"))).before a0 Z = true := hw _ (List.mem_of_getElem? (i := 76) rfl)
theorem tw77 {a0 : Array Value} {Z : State} (hw : ∀ d ∈ tables_1, d.before a0 Z = true) : (Jvm.Cond.classLink "java/util/ImmutableCollections" (10 : Nat) "java/util/ImmutableCollections$List12").before a0 Z = true := hw _ (List.mem_of_getElem? (i := 77) rfl)
theorem tw78 {a0 : Array Value} {Z : State} (hw : ∀ d ∈ tables_1, d.before a0 Z = true) : (Jvm.Cond.superclass "java/util/ImmutableCollections$ListN" "java/util/ImmutableCollections$AbstractImmutableList").before a0 Z = true := hw _ (List.mem_of_getElem? (i := 78) rfl)
theorem tw79 {a0 : Array Value} {Z : State} (hw : ∀ d ∈ tables_1, d.before a0 Z = true) : (Jvm.Cond.superclass "java/util/ImmutableCollections$AbstractImmutableList" "java/util/ImmutableCollections$AbstractImmutableCollection").before a0 Z = true := hw _ (List.mem_of_getElem? (i := 79) rfl)
theorem tw80 {a0 : Array Value} {Z : State} (hw : ∀ d ∈ tables_1, d.before a0 Z = true) : (Jvm.Cond.superclass "java/util/ImmutableCollections$AbstractImmutableCollection" "java/util/AbstractCollection").before a0 Z = true := hw _ (List.mem_of_getElem? (i := 80) rfl)
theorem tw81 {a0 : Array Value} {Z : State} (hw : ∀ d ∈ tables_1, d.before a0 Z = true) : (Jvm.Cond.superclass "java/util/AbstractCollection" "java/lang/Object").before a0 Z = true := hw _ (List.mem_of_getElem? (i := 81) rfl)
theorem tw82 {a0 : Array Value} {Z : State} (hw : ∀ d ∈ tables_1, d.before a0 Z = true) : (Jvm.Cond.noSuperclass "java/lang/Object").before a0 Z = true := hw _ (List.mem_of_getElem? (i := 82) rfl)
theorem tw83 {a0 : Array Value} {Z : State} (hw : ∀ d ∈ tables_1, d.before a0 Z = true) : (Jvm.Cond.classLink "java/util/ImmutableCollections" (12 : Nat) "java/util/ImmutableCollections$ListN").before a0 Z = true := hw _ (List.mem_of_getElem? (i := 83) rfl)
theorem tw85 {a0 : Array Value} {Z : State} (hw : ∀ d ∈ tables_1, d.before a0 Z = true) : (Jvm.Cond.fieldLinkNest "java/util/ImmutableCollections" (14 : Nat) "java/util/ImmutableCollections$ListN" "allowNulls" "Z" "java/util/ImmutableCollections").before a0 Z = true := hw _ (List.mem_of_getElem? (i := 85) rfl)
theorem tw87 {a0 : Array Value} {Z : State} (hw : ∀ d ∈ tables_1, d.before a0 Z = true) : (Jvm.Cond.classLink "java/util/ImmutableCollections" (18 : Nat) "java/util/List").before a0 Z = true := hw _ (List.mem_of_getElem? (i := 87) rfl)
theorem tw88 {a0 : Array Value} {Z : State} (hw : ∀ d ∈ tables_1, d.before a0 Z = true) : (Jvm.Cond.castable "java/util/ImmutableCollections$ListN" "java/util/List").before a0 Z = true := hw _ (List.mem_of_getElem? (i := 88) rfl)
theorem tw89 {a0 : Array Value} {Z : State} (hw : ∀ d ∈ tables_1, d.before a0 Z = true) : (Jvm.Cond.fieldLink "com/example/fetcher/client/Received" (28 : Nat) "com/example/fetcher/client/Received" "resources" "Ljava/util/List;").before a0 Z = true := hw _ (List.mem_of_getElem? (i := 89) rfl)
theorem tw90 {a0 : Array Value} {Z : State} (hw : ∀ d ∈ tables_1, d.before a0 Z = true) : (Jvm.Cond.laysFinal "com/example/fetcher/client/Received" "com/example/fetcher/client/Received" "resources" "Ljava/util/List;").before a0 Z = true := hw _ (List.mem_of_getElem? (i := 90) rfl)
theorem tw91 {a0 : Array Value} {Z : State} (hw : ∀ d ∈ tables_1, d.before a0 Z = true) : (Jvm.Cond.fieldLink "com/example/fetcher/client/Received" (32 : Nat) "com/example/fetcher/client/Received" "returned" "Ljava/util/List;").before a0 Z = true := hw _ (List.mem_of_getElem? (i := 91) rfl)
theorem tw92 {a0 : Array Value} {Z : State} (hw : ∀ d ∈ tables_1, d.before a0 Z = true) : (Jvm.Cond.laysFinal "com/example/fetcher/client/Received" "com/example/fetcher/client/Received" "returned" "Ljava/util/List;").before a0 Z = true := hw _ (List.mem_of_getElem? (i := 92) rfl)
theorem tw93 {a0 : Array Value} {Z : State} (hw : ∀ d ∈ tables_1, d.before a0 Z = true) : (Jvm.Cond.fieldLink "com/example/fetcher/client/Received" (35 : Nat) "com/example/fetcher/client/Received" "told" "Ljava/util/List;").before a0 Z = true := hw _ (List.mem_of_getElem? (i := 93) rfl)
theorem tw94 {a0 : Array Value} {Z : State} (hw : ∀ d ∈ tables_1, d.before a0 Z = true) : (Jvm.Cond.laysFinal "com/example/fetcher/client/Received" "com/example/fetcher/client/Received" "told" "Ljava/util/List;").before a0 Z = true := hw _ (List.mem_of_getElem? (i := 94) rfl)
theorem tw95 {a0 : Array Value} {Z : State} (hw : ∀ d ∈ tables_1, d.before a0 Z = true) : (Jvm.Cond.methodLink "com/example/fetcher/client/Received" (38 : Nat) ({ cls := "java/util/Set", name := "copyOf", desc := "(Ljava/util/Collection;)Ljava/util/Set;" } : Jvm.MethodName)).before a0 Z = true := hw _ (List.mem_of_getElem? (i := 95) rfl)
theorem tw96 {a0 : Array Value} {Z : State} (hw : ∀ d ∈ tables_1, d.before a0 Z = true) : (Jvm.Cond.static ({ cls := "java/util/Set", name := "copyOf", desc := "(Ljava/util/Collection;)Ljava/util/Set;" } : Jvm.MethodName)).before a0 Z = true := hw _ (List.mem_of_getElem? (i := 96) rfl)
theorem tw97 {a0 : Array Value} {Z : State} (hw : ∀ d ∈ tables_1, d.before a0 Z = true) : (Jvm.Cond.code ({ cls := "java/util/Set", name := "copyOf", desc := "(Ljava/util/Collection;)Ljava/util/Set;" } : Jvm.MethodName) jdk_96_method_29_code (1 : Nat) (Option.some (Jvm.ClassFile.FieldType.object "java/util/Set"))).before a0 Z = true := hw _ (List.mem_of_getElem? (i := 97) rfl)
theorem tw98 {a0 : Array Value} {Z : State} (hw : ∀ d ∈ tables_1, d.before a0 Z = true) : (Jvm.Cond.classLink "java/util/Set" (31 : Nat) "java/util/ImmutableCollections$AbstractImmutableSet").before a0 Z = true := hw _ (List.mem_of_getElem? (i := 98) rfl)
theorem tw99 {a0 : Array Value} {Z : State} (hw : ∀ d ∈ tables_1, d.before a0 Z = true) : (Jvm.Cond.castable "java/util/ImmutableCollections$SetN" "java/util/ImmutableCollections$AbstractImmutableSet").before a0 Z = true := hw _ (List.mem_of_getElem? (i := 99) rfl)
theorem tw100 {a0 : Array Value} {Z : State} (hw : ∀ d ∈ tables_1, d.before a0 Z = true) : (Jvm.Cond.classLink "java/util/Set" (33 : Nat) "java/util/Set").before a0 Z = true := hw _ (List.mem_of_getElem? (i := 100) rfl)
theorem tw101 {a0 : Array Value} {Z : State} (hw : ∀ d ∈ tables_1, d.before a0 Z = true) : (Jvm.Cond.castable "java/util/ImmutableCollections$SetN" "java/util/Set").before a0 Z = true := hw _ (List.mem_of_getElem? (i := 101) rfl)
theorem tw102 {a0 : Array Value} {Z : State} (hw : ∀ d ∈ tables_1, d.before a0 Z = true) : (Jvm.Cond.fieldLink "com/example/fetcher/client/Received" (43 : Nat) "com/example/fetcher/client/Received" "versions" "Ljava/util/Set;").before a0 Z = true := hw _ (List.mem_of_getElem? (i := 102) rfl)
theorem tw103 {a0 : Array Value} {Z : State} (hw : ∀ d ∈ tables_1, d.before a0 Z = true) : (Jvm.Cond.laysFinal "com/example/fetcher/client/Received" "com/example/fetcher/client/Received" "versions" "Ljava/util/Set;").before a0 Z = true := hw _ (List.mem_of_getElem? (i := 103) rfl)
theorem tw104 {a0 : Array Value} {Z : State} (hw : ∀ d ∈ tables_1, d.before a0 Z = true) : (Jvm.Cond.methodLink "com/example/fetcher/client/ReceivedIsErrorPinLaw" (22 : Nat) ({ cls := "com/example/fetcher/client/Received", name := "isError", desc := "()Z" } : Jvm.MethodName)).before a0 Z = true := hw _ (List.mem_of_getElem? (i := 104) rfl)
theorem tw105 {a0 : Array Value} {Z : State} (hw : ∀ d ∈ tables_1, d.before a0 Z = true) : (Jvm.Cond.declares ({ cls := "com/example/fetcher/client/Received", name := "isError", desc := "()Z" } : Jvm.MethodName)).before a0 Z = true := hw _ (List.mem_of_getElem? (i := 105) rfl)
theorem tw106 {a0 : Array Value} {Z : State} (hw : ∀ d ∈ tables_1, d.before a0 Z = true) : (Jvm.Cond.instanceMethod ({ cls := "com/example/fetcher/client/Received", name := "isError", desc := "()Z" } : Jvm.MethodName)).before a0 Z = true := hw _ (List.mem_of_getElem? (i := 106) rfl)
theorem tw107 {a0 : Array Value} {Z : State} (hw : ∀ d ∈ tables_1, d.before a0 Z = true) : (Jvm.Cond.selects "com/example/fetcher/client/Received" ({ cls := "com/example/fetcher/client/Received", name := "isError", desc := "()Z" } : Jvm.MethodName) ({ cls := "com/example/fetcher/client/Received", name := "isError", desc := "()Z" } : Jvm.MethodName)).before a0 Z = true := hw _ (List.mem_of_getElem? (i := 107) rfl)
theorem tw108 {a0 : Array Value} {Z : State} (hw : ∀ d ∈ tables_1, d.before a0 Z = true) : (Jvm.Cond.code ({ cls := "com/example/fetcher/client/Received", name := "isError", desc := "()Z" } : Jvm.MethodName) prog_4_method_5_code (1 : Nat) (Option.some Jvm.ClassFile.FieldType.boolean)).before a0 Z = true := hw _ (List.mem_of_getElem? (i := 108) rfl)
theorem tw109 {a0 : Array Value} {Z : State} (hw : ∀ d ∈ tables_1, d.before a0 Z = true) : (Jvm.Cond.methodLink "com/example/fetcher/client/ReceivedIsErrorPinLaw" (26 : Nat) ({ cls := "com/example/fetcher/client/Received", name := "errorCode", desc := "()Ljava/lang/String;" } : Jvm.MethodName)).before a0 Z = true := hw _ (List.mem_of_getElem? (i := 109) rfl)
theorem tw110 {a0 : Array Value} {Z : State} (hw : ∀ d ∈ tables_1, d.before a0 Z = true) : (Jvm.Cond.declares ({ cls := "com/example/fetcher/client/Received", name := "errorCode", desc := "()Ljava/lang/String;" } : Jvm.MethodName)).before a0 Z = true := hw _ (List.mem_of_getElem? (i := 110) rfl)
theorem tw111 {a0 : Array Value} {Z : State} (hw : ∀ d ∈ tables_1, d.before a0 Z = true) : (Jvm.Cond.instanceMethod ({ cls := "com/example/fetcher/client/Received", name := "errorCode", desc := "()Ljava/lang/String;" } : Jvm.MethodName)).before a0 Z = true := hw _ (List.mem_of_getElem? (i := 111) rfl)
theorem tw112 {a0 : Array Value} {Z : State} (hw : ∀ d ∈ tables_1, d.before a0 Z = true) : (Jvm.Cond.selects "com/example/fetcher/client/Received" ({ cls := "com/example/fetcher/client/Received", name := "errorCode", desc := "()Ljava/lang/String;" } : Jvm.MethodName) ({ cls := "com/example/fetcher/client/Received", name := "errorCode", desc := "()Ljava/lang/String;" } : Jvm.MethodName)).before a0 Z = true := hw _ (List.mem_of_getElem? (i := 112) rfl)
theorem tw113 {a0 : Array Value} {Z : State} (hw : ∀ d ∈ tables_1, d.before a0 Z = true) : (Jvm.Cond.code ({ cls := "com/example/fetcher/client/Received", name := "errorCode", desc := "()Ljava/lang/String;" } : Jvm.MethodName) prog_4_method_6_code (1 : Nat) (Option.some (Jvm.ClassFile.FieldType.object "java/lang/String"))).before a0 Z = true := hw _ (List.mem_of_getElem? (i := 113) rfl)
theorem tw114 {a0 : Array Value} {Z : State} (hw : ∀ d ∈ tables_1, d.before a0 Z = true) : (Jvm.Cond.classLink "com/example/fetcher/client/ReceivedIsErrorPinLaw" (30 : Nat) "java/util/ArrayList").before a0 Z = true := hw _ (List.mem_of_getElem? (i := 114) rfl)
theorem tw115 {a0 : Array Value} {Z : State} (hw : ∀ d ∈ tables_1, d.before a0 Z = true) : (Jvm.Cond.instantiable "java/util/ArrayList" (3 : Nat)).before a0 Z = true := hw _ (List.mem_of_getElem? (i := 115) rfl)
theorem tw116 {a0 : Array Value} {Z : State} (hw : ∀ d ∈ tables_1, d.before a0 Z = true) : (Jvm.Cond.initialized "java/util/ArrayList").before a0 Z = true := hw _ (List.mem_of_getElem? (i := 116) rfl)
theorem tw117 {a0 : Array Value} {Z : State} (hw : ∀ d ∈ tables_1, d.before a0 Z = true) : (Jvm.Cond.methodLink "com/example/fetcher/client/ReceivedIsErrorPinLaw" (32 : Nat) ({ cls := "java/util/ArrayList", name := "<init>", desc := "()V" } : Jvm.MethodName)).before a0 Z = true := hw _ (List.mem_of_getElem? (i := 117) rfl)
theorem tw118 {a0 : Array Value} {Z : State} (hw : ∀ d ∈ tables_1, d.before a0 Z = true) : (Jvm.Cond.instanceMethod ({ cls := "java/util/ArrayList", name := "<init>", desc := "()V" } : Jvm.MethodName)).before a0 Z = true := hw _ (List.mem_of_getElem? (i := 118) rfl)
theorem tw119 {a0 : Array Value} {Z : State} (hw : ∀ d ∈ tables_1, d.before a0 Z = true) : (Jvm.Cond.code ({ cls := "java/util/ArrayList", name := "<init>", desc := "()V" } : Jvm.MethodName) jdk_38_method_2_code (1 : Nat) (Option.none : Option Jvm.ClassFile.FieldType)).before a0 Z = true := hw _ (List.mem_of_getElem? (i := 119) rfl)
theorem tw120 {a0 : Array Value} {Z : State} (hw : ∀ d ∈ tables_1, d.before a0 Z = true) : (Jvm.Cond.methodLink "java/util/ArrayList" (1 : Nat) ({ cls := "java/util/AbstractList", name := "<init>", desc := "()V" } : Jvm.MethodName)).before a0 Z = true := hw _ (List.mem_of_getElem? (i := 120) rfl)
theorem tw121 {a0 : Array Value} {Z : State} (hw : ∀ d ∈ tables_1, d.before a0 Z = true) : (Jvm.Cond.instanceMethod ({ cls := "java/util/AbstractList", name := "<init>", desc := "()V" } : Jvm.MethodName)).before a0 Z = true := hw _ (List.mem_of_getElem? (i := 121) rfl)
theorem tw124 {a0 : Array Value} {Z : State} (hw : ∀ d ∈ tables_1, d.before a0 Z = true) : (Jvm.Cond.initialized "java/util/AbstractList").before a0 Z = true := hw _ (List.mem_of_getElem? (i := 124) rfl)
theorem tw125 {a0 : Array Value} {Z : State} (hw : ∀ d ∈ tables_1, d.before a0 Z = true) : (Jvm.Cond.code ({ cls := "java/util/AbstractList", name := "<init>", desc := "()V" } : Jvm.MethodName) jdk_39_method_1_code (1 : Nat) (Option.none : Option Jvm.ClassFile.FieldType)).before a0 Z = true := hw _ (List.mem_of_getElem? (i := 125) rfl)
theorem tw126 {a0 : Array Value} {Z : State} (hw : ∀ d ∈ tables_1, d.before a0 Z = true) : (Jvm.Cond.methodLink "java/util/AbstractList" (1 : Nat) ({ cls := "java/util/AbstractCollection", name := "<init>", desc := "()V" } : Jvm.MethodName)).before a0 Z = true := hw _ (List.mem_of_getElem? (i := 126) rfl)
theorem tw127 {a0 : Array Value} {Z : State} (hw : ∀ d ∈ tables_1, d.before a0 Z = true) : (Jvm.Cond.instanceMethod ({ cls := "java/util/AbstractCollection", name := "<init>", desc := "()V" } : Jvm.MethodName)).before a0 Z = true := hw _ (List.mem_of_getElem? (i := 127) rfl)
theorem tw130 {a0 : Array Value} {Z : State} (hw : ∀ d ∈ tables_1, d.before a0 Z = true) : (Jvm.Cond.initialized "java/util/AbstractCollection").before a0 Z = true := hw _ (List.mem_of_getElem? (i := 130) rfl)
theorem tw131 {a0 : Array Value} {Z : State} (hw : ∀ d ∈ tables_1, d.before a0 Z = true) : (Jvm.Cond.code ({ cls := "java/util/AbstractCollection", name := "<init>", desc := "()V" } : Jvm.MethodName) jdk_22_method_1_code (1 : Nat) (Option.none : Option Jvm.ClassFile.FieldType)).before a0 Z = true := hw _ (List.mem_of_getElem? (i := 131) rfl)
theorem tw132 {a0 : Array Value} {Z : State} (hw : ∀ d ∈ tables_1, d.before a0 Z = true) : (Jvm.Cond.methodLink "java/util/AbstractCollection" (1 : Nat) ({ cls := "java/lang/Object", name := "<init>", desc := "()V" } : Jvm.MethodName)).before a0 Z = true := hw _ (List.mem_of_getElem? (i := 132) rfl)
theorem tw133 {a0 : Array Value} {Z : State} (hw : ∀ d ∈ tables_1, d.before a0 Z = true) : (Jvm.Cond.fieldLink "java/util/AbstractList" (7 : Nat) "java/util/AbstractList" "modCount" "I").before a0 Z = true := hw _ (List.mem_of_getElem? (i := 133) rfl)
theorem tw134 {a0 : Array Value} {Z : State} (hw : ∀ d ∈ tables_1, d.before a0 Z = true) : (Jvm.Cond.lays "java/util/ArrayList" "java/util/AbstractList" "modCount" "I").before a0 Z = true := hw _ (List.mem_of_getElem? (i := 134) rfl)
theorem tw135 {a0 : Array Value} {Z : State} (hw : ∀ d ∈ tables_1, d.before a0 Z = true) : (Jvm.Cond.fieldLink "java/util/ArrayList" (39 : Nat) "java/util/ArrayList" "DEFAULTCAPACITY_EMPTY_ELEMENTDATA" "[Ljava/lang/Object;").before a0 Z = true := hw _ (List.mem_of_getElem? (i := 135) rfl)
theorem tw136 {a0 : Array Value} {Z : State} (hw : ∀ d ∈ tables_1, d.before a0 Z = true) : (Jvm.Cond.fieldLink "java/util/ArrayList" (9 : Nat) "java/util/ArrayList" "elementData" "[Ljava/lang/Object;").before a0 Z = true := hw _ (List.mem_of_getElem? (i := 136) rfl)
theorem tw137 {a0 : Array Value} {Z : State} (hw : ∀ d ∈ tables_1, d.before a0 Z = true) : (Jvm.Cond.lays "java/util/ArrayList" "java/util/ArrayList" "elementData" "[Ljava/lang/Object;").before a0 Z = true := hw _ (List.mem_of_getElem? (i := 137) rfl)
theorem tw138 {a0 : Array Value} {Z : State} (hw : ∀ d ∈ tables_1, d.before a0 Z = true) : (Jvm.Cond.classLink "com/example/fetcher/client/ReceivedIsErrorPinLaw" (17 : Nat) "com/example/fetcher/client/Received").before a0 Z = true := hw _ (List.mem_of_getElem? (i := 138) rfl)
theorem tw139 {a0 : Array Value} {Z : State} (hw : ∀ d ∈ tables_1, d.before a0 Z = true) : (Jvm.Cond.methodLink "com/example/fetcher/client/ReceivedIsErrorPinLaw" (37 : Nat) ({ cls := "com/example/fetcher/client/Received", name := "returned", desc := "()Ljava/util/List;" } : Jvm.MethodName)).before a0 Z = true := hw _ (List.mem_of_getElem? (i := 139) rfl)
theorem tw140 {a0 : Array Value} {Z : State} (hw : ∀ d ∈ tables_1, d.before a0 Z = true) : (Jvm.Cond.declares ({ cls := "com/example/fetcher/client/Received", name := "returned", desc := "()Ljava/util/List;" } : Jvm.MethodName)).before a0 Z = true := hw _ (List.mem_of_getElem? (i := 140) rfl)
theorem tw141 {a0 : Array Value} {Z : State} (hw : ∀ d ∈ tables_1, d.before a0 Z = true) : (Jvm.Cond.instanceMethod ({ cls := "com/example/fetcher/client/Received", name := "returned", desc := "()Ljava/util/List;" } : Jvm.MethodName)).before a0 Z = true := hw _ (List.mem_of_getElem? (i := 141) rfl)
theorem tw142 {a0 : Array Value} {Z : State} (hw : ∀ d ∈ tables_1, d.before a0 Z = true) : (Jvm.Cond.selects "com/example/fetcher/client/Received" ({ cls := "com/example/fetcher/client/Received", name := "returned", desc := "()Ljava/util/List;" } : Jvm.MethodName) ({ cls := "com/example/fetcher/client/Received", name := "returned", desc := "()Ljava/util/List;" } : Jvm.MethodName)).before a0 Z = true := hw _ (List.mem_of_getElem? (i := 142) rfl)
theorem tw143 {a0 : Array Value} {Z : State} (hw : ∀ d ∈ tables_1, d.before a0 Z = true) : (Jvm.Cond.code ({ cls := "com/example/fetcher/client/Received", name := "returned", desc := "()Ljava/util/List;" } : Jvm.MethodName) prog_4_method_9_code (1 : Nat) (Option.some (Jvm.ClassFile.FieldType.object "java/util/List"))).before a0 Z = true := hw _ (List.mem_of_getElem? (i := 143) rfl)
theorem tw144 {a0 : Array Value} {Z : State} (hw : ∀ d ∈ tables_1, d.before a0 Z = true) : (Jvm.Cond.methodLink "com/example/fetcher/client/ReceivedIsErrorPinLaw" (41 : Nat) ({ cls := "com/example/fetcher/client/Received", name := "told", desc := "()Ljava/util/List;" } : Jvm.MethodName)).before a0 Z = true := hw _ (List.mem_of_getElem? (i := 144) rfl)
theorem tw145 {a0 : Array Value} {Z : State} (hw : ∀ d ∈ tables_1, d.before a0 Z = true) : (Jvm.Cond.declares ({ cls := "com/example/fetcher/client/Received", name := "told", desc := "()Ljava/util/List;" } : Jvm.MethodName)).before a0 Z = true := hw _ (List.mem_of_getElem? (i := 145) rfl)
theorem tw146 {a0 : Array Value} {Z : State} (hw : ∀ d ∈ tables_1, d.before a0 Z = true) : (Jvm.Cond.instanceMethod ({ cls := "com/example/fetcher/client/Received", name := "told", desc := "()Ljava/util/List;" } : Jvm.MethodName)).before a0 Z = true := hw _ (List.mem_of_getElem? (i := 146) rfl)
theorem tw147 {a0 : Array Value} {Z : State} (hw : ∀ d ∈ tables_1, d.before a0 Z = true) : (Jvm.Cond.selects "com/example/fetcher/client/Received" ({ cls := "com/example/fetcher/client/Received", name := "told", desc := "()Ljava/util/List;" } : Jvm.MethodName) ({ cls := "com/example/fetcher/client/Received", name := "told", desc := "()Ljava/util/List;" } : Jvm.MethodName)).before a0 Z = true := hw _ (List.mem_of_getElem? (i := 147) rfl)
theorem tw148 {a0 : Array Value} {Z : State} (hw : ∀ d ∈ tables_1, d.before a0 Z = true) : (Jvm.Cond.code ({ cls := "com/example/fetcher/client/Received", name := "told", desc := "()Ljava/util/List;" } : Jvm.MethodName) prog_4_method_10_code (1 : Nat) (Option.some (Jvm.ClassFile.FieldType.object "java/util/List"))).before a0 Z = true := hw _ (List.mem_of_getElem? (i := 148) rfl)
theorem tw149 {a0 : Array Value} {Z : State} (hw : ∀ d ∈ tables_1, d.before a0 Z = true) : (Jvm.Cond.methodLink "com/example/fetcher/client/ReceivedIsErrorPinLaw" (44 : Nat) ({ cls := "com/example/fetcher/client/Received", name := "versions", desc := "()Ljava/util/Set;" } : Jvm.MethodName)).before a0 Z = true := hw _ (List.mem_of_getElem? (i := 149) rfl)
theorem tw150 {a0 : Array Value} {Z : State} (hw : ∀ d ∈ tables_1, d.before a0 Z = true) : (Jvm.Cond.declares ({ cls := "com/example/fetcher/client/Received", name := "versions", desc := "()Ljava/util/Set;" } : Jvm.MethodName)).before a0 Z = true := hw _ (List.mem_of_getElem? (i := 150) rfl)
theorem tw151 {a0 : Array Value} {Z : State} (hw : ∀ d ∈ tables_1, d.before a0 Z = true) : (Jvm.Cond.instanceMethod ({ cls := "com/example/fetcher/client/Received", name := "versions", desc := "()Ljava/util/Set;" } : Jvm.MethodName)).before a0 Z = true := hw _ (List.mem_of_getElem? (i := 151) rfl)
theorem tw152 {a0 : Array Value} {Z : State} (hw : ∀ d ∈ tables_1, d.before a0 Z = true) : (Jvm.Cond.selects "com/example/fetcher/client/Received" ({ cls := "com/example/fetcher/client/Received", name := "versions", desc := "()Ljava/util/Set;" } : Jvm.MethodName) ({ cls := "com/example/fetcher/client/Received", name := "versions", desc := "()Ljava/util/Set;" } : Jvm.MethodName)).before a0 Z = true := hw _ (List.mem_of_getElem? (i := 152) rfl)
theorem tw153 {a0 : Array Value} {Z : State} (hw : ∀ d ∈ tables_1, d.before a0 Z = true) : (Jvm.Cond.code ({ cls := "com/example/fetcher/client/Received", name := "versions", desc := "()Ljava/util/Set;" } : Jvm.MethodName) prog_4_method_11_code (1 : Nat) (Option.some (Jvm.ClassFile.FieldType.object "java/util/Set"))).before a0 Z = true := hw _ (List.mem_of_getElem? (i := 153) rfl)
theorem tw154 {a0 : Array Value} {Z : State} (hw : ∀ d ∈ tables_1, d.before a0 Z = true) : (Jvm.Cond.methodLink "com/example/fetcher/client/ReceivedIsErrorPinLaw" (48 : Nat) ({ cls := "com/example/fetcher/client/Received", name := "<init>", desc := "(Ljava/lang/String;Ljava/util/List;Ljava/util/List;Ljava/util/List;Ljava/util/Set;)V" } : Jvm.MethodName)).before a0 Z = true := hw _ (List.mem_of_getElem? (i := 154) rfl)
theorem tw155 {a0 : Array Value} {Z : State} (hw : ∀ d ∈ tables_1, d.before a0 Z = true) : (Jvm.Cond.instanceMethod ({ cls := "com/example/fetcher/client/Received", name := "<init>", desc := "(Ljava/lang/String;Ljava/util/List;Ljava/util/List;Ljava/util/List;Ljava/util/Set;)V" } : Jvm.MethodName)).before a0 Z = true := hw _ (List.mem_of_getElem? (i := 155) rfl)
theorem tw156 {a0 : Array Value} {Z : State} (hw : ∀ d ∈ tables_1, d.before a0 Z = true) : (Jvm.Cond.code ({ cls := "com/example/fetcher/client/Received", name := "<init>", desc := "(Ljava/lang/String;Ljava/util/List;Ljava/util/List;Ljava/util/List;Ljava/util/Set;)V" } : Jvm.MethodName) prog_4_method_1_code (6 : Nat) (Option.none : Option Jvm.ClassFile.FieldType)).before a0 Z = true := hw _ (List.mem_of_getElem? (i := 156) rfl)
theorem tw157 {a0 : Array Value} {Z : State} (hw : ∀ d ∈ tables_1, d.before a0 Z = true) : (Jvm.Cond.superclass "java/util/ArrayList" "java/util/AbstractList").before a0 Z = true := hw _ (List.mem_of_getElem? (i := 157) rfl)
theorem tw158 {a0 : Array Value} {Z : State} (hw : ∀ d ∈ tables_1, d.before a0 Z = true) : (Jvm.Cond.superclass "java/util/AbstractList" "java/util/AbstractCollection").before a0 Z = true := hw _ (List.mem_of_getElem? (i := 158) rfl)
theorem tw159 {a0 : Array Value} {Z : State} (hw : ∀ d ∈ tables_1, d.before a0 Z = true) : (Jvm.Cond.methodLink "java/util/ImmutableCollections" (20 : Nat) ({ cls := "java/util/Collection", name := "isEmpty", desc := "()Z" } : Jvm.MethodName)).before a0 Z = true := hw _ (List.mem_of_getElem? (i := 159) rfl)
theorem tw160 {a0 : Array Value} {Z : State} (hw : ∀ d ∈ tables_1, d.before a0 Z = true) : (Jvm.Cond.declares ({ cls := "java/util/Collection", name := "isEmpty", desc := "()Z" } : Jvm.MethodName)).before a0 Z = true := hw _ (List.mem_of_getElem? (i := 160) rfl)
theorem tw161 {a0 : Array Value} {Z : State} (hw : ∀ d ∈ tables_1, d.before a0 Z = true) : (Jvm.Cond.interfaceMethod "java/util/Collection" "java/util/Collection" "isEmpty" "()Z").before a0 Z = true := hw _ (List.mem_of_getElem? (i := 161) rfl)
theorem tw162 {a0 : Array Value} {Z : State} (hw : ∀ d ∈ tables_1, d.before a0 Z = true) : (Jvm.Cond.selects "java/util/ArrayList" ({ cls := "java/util/Collection", name := "isEmpty", desc := "()Z" } : Jvm.MethodName) ({ cls := "java/util/ArrayList", name := "isEmpty", desc := "()Z" } : Jvm.MethodName)).before a0 Z = true := hw _ (List.mem_of_getElem? (i := 162) rfl)
theorem tw163 {a0 : Array Value} {Z : State} (hw : ∀ d ∈ tables_1, d.before a0 Z = true) : (Jvm.Cond.instanceMethod ({ cls := "java/util/ArrayList", name := "isEmpty", desc := "()Z" } : Jvm.MethodName)).before a0 Z = true := hw _ (List.mem_of_getElem? (i := 163) rfl)
theorem tw164 {a0 : Array Value} {Z : State} (hw : ∀ d ∈ tables_1, d.before a0 Z = true) : (Jvm.Cond.publicMethod ({ cls := "java/util/ArrayList", name := "isEmpty", desc := "()Z" } : Jvm.MethodName)).before a0 Z = true := hw _ (List.mem_of_getElem? (i := 164) rfl)
theorem tw165 {a0 : Array Value} {Z : State} (hw : ∀ d ∈ tables_1, d.before a0 Z = true) : (Jvm.Cond.unhidden "java/util/ArrayList" "isEmpty" "()Z").before a0 Z = true := hw _ (List.mem_of_getElem? (i := 165) rfl)
theorem tw166 {a0 : Array Value} {Z : State} (hw : ∀ d ∈ tables_1, d.before a0 Z = true) : (Jvm.Cond.castable "java/util/ArrayList" "java/util/Collection").before a0 Z = true := hw _ (List.mem_of_getElem? (i := 166) rfl)
theorem tw167 {a0 : Array Value} {Z : State} (hw : ∀ d ∈ tables_1, d.before a0 Z = true) : (Jvm.Cond.code ({ cls := "java/util/ArrayList", name := "isEmpty", desc := "()Z" } : Jvm.MethodName) jdk_38_method_9_code (1 : Nat) (Option.some Jvm.ClassFile.FieldType.boolean)).before a0 Z = true := hw _ (List.mem_of_getElem? (i := 167) rfl)
theorem tw168 {a0 : Array Value} {Z : State} (hw : ∀ d ∈ tables_1, d.before a0 Z = true) : (Jvm.Cond.fieldLink "java/util/ArrayList" (48 : Nat) "java/util/ArrayList" "size" "I").before a0 Z = true := hw _ (List.mem_of_getElem? (i := 168) rfl)
theorem tw169 {a0 : Array Value} {Z : State} (hw : ∀ d ∈ tables_1, d.before a0 Z = true) : (Jvm.Cond.lays "java/util/ArrayList" "java/util/ArrayList" "size" "I").before a0 Z = true := hw _ (List.mem_of_getElem? (i := 169) rfl)
theorem tw170 {a0 : Array Value} {Z : State} (hw : ∀ d ∈ tables_1, d.before a0 Z = true) : (Jvm.Cond.methodLink "java/util/ImmutableCollections" (26 : Nat) ({ cls := "java/util/List", name := "of", desc := "()Ljava/util/List;" } : Jvm.MethodName)).before a0 Z = true := hw _ (List.mem_of_getElem? (i := 170) rfl)
theorem tw171 {a0 : Array Value} {Z : State} (hw : ∀ d ∈ tables_1, d.before a0 Z = true) : (Jvm.Cond.methodLink "com/example/fetcher/client/ReceivedIsErrorPinLaw" (33 : Nat) ({ cls := "java/util/ArrayList", name := "add", desc := "(Ljava/lang/Object;)Z" } : Jvm.MethodName)).before a0 Z = true := hw _ (List.mem_of_getElem? (i := 171) rfl)
theorem tw172 {a0 : Array Value} {Z : State} (hw : ∀ d ∈ tables_1, d.before a0 Z = true) : (Jvm.Cond.declares ({ cls := "java/util/ArrayList", name := "add", desc := "(Ljava/lang/Object;)Z" } : Jvm.MethodName)).before a0 Z = true := hw _ (List.mem_of_getElem? (i := 172) rfl)
theorem tw173 {a0 : Array Value} {Z : State} (hw : ∀ d ∈ tables_1, d.before a0 Z = true) : (Jvm.Cond.instanceMethod ({ cls := "java/util/ArrayList", name := "add", desc := "(Ljava/lang/Object;)Z" } : Jvm.MethodName)).before a0 Z = true := hw _ (List.mem_of_getElem? (i := 173) rfl)
theorem tw174 {a0 : Array Value} {Z : State} (hw : ∀ d ∈ tables_1, d.before a0 Z = true) : (Jvm.Cond.selects "java/util/ArrayList" ({ cls := "java/util/ArrayList", name := "add", desc := "(Ljava/lang/Object;)Z" } : Jvm.MethodName) ({ cls := "java/util/ArrayList", name := "add", desc := "(Ljava/lang/Object;)Z" } : Jvm.MethodName)).before a0 Z = true := hw _ (List.mem_of_getElem? (i := 174) rfl)
theorem tw175 {a0 : Array Value} {Z : State} (hw : ∀ d ∈ tables_1, d.before a0 Z = true) : (Jvm.Cond.code ({ cls := "java/util/ArrayList", name := "add", desc := "(Ljava/lang/Object;)Z" } : Jvm.MethodName) jdk_38_method_25_code (2 : Nat) (Option.some Jvm.ClassFile.FieldType.boolean)).before a0 Z = true := hw _ (List.mem_of_getElem? (i := 175) rfl)
theorem tw176 {a0 : Array Value} {Z : State} (hw : ∀ d ∈ tables_1, d.before a0 Z = true) : (Jvm.Cond.fieldLink "java/util/ArrayList" (63 : Nat) "java/util/ArrayList" "modCount" "I").before a0 Z = true := hw _ (List.mem_of_getElem? (i := 176) rfl)
theorem tw177 {a0 : Array Value} {Z : State} (hw : ∀ d ∈ tables_1, d.before a0 Z = true) : (Jvm.Cond.sameField "java/util/ArrayList" "java/util/AbstractList" "modCount" "I").before a0 Z = true := hw _ (List.mem_of_getElem? (i := 177) rfl)
theorem tw178 {a0 : Array Value} {Z : State} (hw : ∀ d ∈ tables_1, d.before a0 Z = true) : (Jvm.Cond.methodLink "java/util/ArrayList" (131 : Nat) ({ cls := "java/util/ArrayList", name := "add", desc := "(Ljava/lang/Object;[Ljava/lang/Object;I)V" } : Jvm.MethodName)).before a0 Z = true := hw _ (List.mem_of_getElem? (i := 178) rfl)
theorem tw179 {a0 : Array Value} {Z : State} (hw : ∀ d ∈ tables_1, d.before a0 Z = true) : (Jvm.Cond.instanceMethod ({ cls := "java/util/ArrayList", name := "add", desc := "(Ljava/lang/Object;[Ljava/lang/Object;I)V" } : Jvm.MethodName)).before a0 Z = true := hw _ (List.mem_of_getElem? (i := 179) rfl)
theorem tw180 {a0 : Array Value} {Z : State} (hw : ∀ d ∈ tables_1, d.before a0 Z = true) : (Jvm.Cond.privateMethod ({ cls := "java/util/ArrayList", name := "add", desc := "(Ljava/lang/Object;[Ljava/lang/Object;I)V" } : Jvm.MethodName)).before a0 Z = true := hw _ (List.mem_of_getElem? (i := 180) rfl)
theorem tw181 {a0 : Array Value} {Z : State} (hw : ∀ d ∈ tables_1, d.before a0 Z = true) : (Jvm.Cond.selects "java/util/ArrayList" ({ cls := "java/util/ArrayList", name := "add", desc := "(Ljava/lang/Object;[Ljava/lang/Object;I)V" } : Jvm.MethodName) ({ cls := "java/util/ArrayList", name := "add", desc := "(Ljava/lang/Object;[Ljava/lang/Object;I)V" } : Jvm.MethodName)).before a0 Z = true := hw _ (List.mem_of_getElem? (i := 181) rfl)
theorem tw182 {a0 : Array Value} {Z : State} (hw : ∀ d ∈ tables_1, d.before a0 Z = true) : (Jvm.Cond.code ({ cls := "java/util/ArrayList", name := "add", desc := "(Ljava/lang/Object;[Ljava/lang/Object;I)V" } : Jvm.MethodName) jdk_38_method_24_code (4 : Nat) (Option.none : Option Jvm.ClassFile.FieldType)).before a0 Z = true := hw _ (List.mem_of_getElem? (i := 182) rfl)
theorem tw183 {a0 : Array Value} {Z : State} (hw : ∀ d ∈ tables_1, d.before a0 Z = true) : (Jvm.Cond.methodLink "java/util/ArrayList" (129 : Nat) ({ cls := "java/util/ArrayList", name := "grow", desc := "()[Ljava/lang/Object;" } : Jvm.MethodName)).before a0 Z = true := hw _ (List.mem_of_getElem? (i := 183) rfl)
theorem tw184 {a0 : Array Value} {Z : State} (hw : ∀ d ∈ tables_1, d.before a0 Z = true) : (Jvm.Cond.instanceMethod ({ cls := "java/util/ArrayList", name := "grow", desc := "()[Ljava/lang/Object;" } : Jvm.MethodName)).before a0 Z = true := hw _ (List.mem_of_getElem? (i := 184) rfl)
theorem tw185 {a0 : Array Value} {Z : State} (hw : ∀ d ∈ tables_1, d.before a0 Z = true) : (Jvm.Cond.privateMethod ({ cls := "java/util/ArrayList", name := "grow", desc := "()[Ljava/lang/Object;" } : Jvm.MethodName)).before a0 Z = true := hw _ (List.mem_of_getElem? (i := 185) rfl)
theorem tw186 {a0 : Array Value} {Z : State} (hw : ∀ d ∈ tables_1, d.before a0 Z = true) : (Jvm.Cond.selects "java/util/ArrayList" ({ cls := "java/util/ArrayList", name := "grow", desc := "()[Ljava/lang/Object;" } : Jvm.MethodName) ({ cls := "java/util/ArrayList", name := "grow", desc := "()[Ljava/lang/Object;" } : Jvm.MethodName)).before a0 Z = true := hw _ (List.mem_of_getElem? (i := 186) rfl)
theorem tw187 {a0 : Array Value} {Z : State} (hw : ∀ d ∈ tables_1, d.before a0 Z = true) : (Jvm.Cond.code ({ cls := "java/util/ArrayList", name := "grow", desc := "()[Ljava/lang/Object;" } : Jvm.MethodName) jdk_38_method_7_code (1 : Nat) (Option.some (Jvm.ClassFile.FieldType.array (Jvm.ClassFile.FieldType.object "java/lang/Object")))).before a0 Z = true := hw _ (List.mem_of_getElem? (i := 187) rfl)
theorem tw188 {a0 : Array Value} {Z : State} (hw : ∀ d ∈ tables_1, d.before a0 Z = true) : (Jvm.Cond.methodLink "java/util/ArrayList" (69 : Nat) ({ cls := "java/util/ArrayList", name := "grow", desc := "(I)[Ljava/lang/Object;" } : Jvm.MethodName)).before a0 Z = true := hw _ (List.mem_of_getElem? (i := 188) rfl)
theorem tw189 {a0 : Array Value} {Z : State} (hw : ∀ d ∈ tables_1, d.before a0 Z = true) : (Jvm.Cond.instanceMethod ({ cls := "java/util/ArrayList", name := "grow", desc := "(I)[Ljava/lang/Object;" } : Jvm.MethodName)).before a0 Z = true := hw _ (List.mem_of_getElem? (i := 189) rfl)
theorem tw190 {a0 : Array Value} {Z : State} (hw : ∀ d ∈ tables_1, d.before a0 Z = true) : (Jvm.Cond.privateMethod ({ cls := "java/util/ArrayList", name := "grow", desc := "(I)[Ljava/lang/Object;" } : Jvm.MethodName)).before a0 Z = true := hw _ (List.mem_of_getElem? (i := 190) rfl)
theorem tw191 {a0 : Array Value} {Z : State} (hw : ∀ d ∈ tables_1, d.before a0 Z = true) : (Jvm.Cond.selects "java/util/ArrayList" ({ cls := "java/util/ArrayList", name := "grow", desc := "(I)[Ljava/lang/Object;" } : Jvm.MethodName) ({ cls := "java/util/ArrayList", name := "grow", desc := "(I)[Ljava/lang/Object;" } : Jvm.MethodName)).before a0 Z = true := hw _ (List.mem_of_getElem? (i := 191) rfl)
theorem tw192 {a0 : Array Value} {Z : State} (hw : ∀ d ∈ tables_1, d.before a0 Z = true) : (Jvm.Cond.code ({ cls := "java/util/ArrayList", name := "grow", desc := "(I)[Ljava/lang/Object;" } : Jvm.MethodName) jdk_38_method_6_code (4 : Nat) (Option.some (Jvm.ClassFile.FieldType.array (Jvm.ClassFile.FieldType.object "java/lang/Object")))).before a0 Z = true := hw _ (List.mem_of_getElem? (i := 192) rfl)
theorem tw193 {a0 : Array Value} {Z : State} (hw : ∀ d ∈ tables_1, d.before a0 Z = true) : (Jvm.Cond.methodLink "java/util/ArrayList" (79 : Nat) ({ cls := "java/lang/Math", name := "max", desc := "(II)I" } : Jvm.MethodName)).before a0 Z = true := hw _ (List.mem_of_getElem? (i := 193) rfl)
theorem tw194 {a0 : Array Value} {Z : State} (hw : ∀ d ∈ tables_1, d.before a0 Z = true) : (Jvm.Cond.static ({ cls := "java/lang/Math", name := "max", desc := "(II)I" } : Jvm.MethodName)).before a0 Z = true := hw _ (List.mem_of_getElem? (i := 194) rfl)
theorem tw195 {a0 : Array Value} {Z : State} (hw : ∀ d ∈ tables_1, d.before a0 Z = true) : (Jvm.Cond.initialized "java/lang/Math").before a0 Z = true := hw _ (List.mem_of_getElem? (i := 195) rfl)
theorem tw196 {a0 : Array Value} {Z : State} (hw : ∀ d ∈ tables_1, d.before a0 Z = true) : (Jvm.Cond.code ({ cls := "java/lang/Math", name := "max", desc := "(II)I" } : Jvm.MethodName) jdk_29_method_65_code (2 : Nat) (Option.some Jvm.ClassFile.FieldType.int)).before a0 Z = true := hw _ (List.mem_of_getElem? (i := 196) rfl)
theorem tw197 {a0 : Array Value} {Z : State} (hw : ∀ d ∈ tables_1, d.before a0 Z = true) : (Jvm.Cond.classLink "java/util/ArrayList" (7 : Nat) "java/lang/Object").before a0 Z = true := hw _ (List.mem_of_getElem? (i := 197) rfl)
theorem tw198 {a0 : Array Value} {Z : State} (hw : ∀ d ∈ tables_1, d.before a0 Z = true) : (Jvm.Cond.arrayOver (Jvm.ClassFile.FieldType.object "java/lang/Object")).before a0 Z = true := hw _ (List.mem_of_getElem? (i := 198) rfl)
theorem tw199 {a0 : Array Value} {Z : State} (hw : ∀ d ∈ tables_1, d.before a0 Z = true) : (Jvm.Cond.castable "java/lang/String" "java/lang/Object").before a0 Z = true := hw _ (List.mem_of_getElem? (i := 199) rfl)
theorem tw200 {a0 : Array Value} {Z : State} (hw : ∀ d ∈ tables_1, d.before a0 Z = true) : (Jvm.Cond.methodLink "java/util/ImmutableCollections" (30 : Nat) ({ cls := "java/util/Collection", name := "toArray", desc := "()[Ljava/lang/Object;" } : Jvm.MethodName)).before a0 Z = true := hw _ (List.mem_of_getElem? (i := 200) rfl)
theorem tw201 {a0 : Array Value} {Z : State} (hw : ∀ d ∈ tables_1, d.before a0 Z = true) : (Jvm.Cond.declares ({ cls := "java/util/Collection", name := "toArray", desc := "()[Ljava/lang/Object;" } : Jvm.MethodName)).before a0 Z = true := hw _ (List.mem_of_getElem? (i := 201) rfl)
theorem tw202 {a0 : Array Value} {Z : State} (hw : ∀ d ∈ tables_1, d.before a0 Z = true) : (Jvm.Cond.interfaceMethod "java/util/Collection" "java/util/Collection" "toArray" "()[Ljava/lang/Object;").before a0 Z = true := hw _ (List.mem_of_getElem? (i := 202) rfl)
theorem tw203 {a0 : Array Value} {Z : State} (hw : ∀ d ∈ tables_1, d.before a0 Z = true) : (Jvm.Cond.selects "java/util/ArrayList" ({ cls := "java/util/Collection", name := "toArray", desc := "()[Ljava/lang/Object;" } : Jvm.MethodName) ({ cls := "java/util/ArrayList", name := "toArray", desc := "()[Ljava/lang/Object;" } : Jvm.MethodName)).before a0 Z = true := hw _ (List.mem_of_getElem? (i := 203) rfl)
theorem tw204 {a0 : Array Value} {Z : State} (hw : ∀ d ∈ tables_1, d.before a0 Z = true) : (Jvm.Cond.instanceMethod ({ cls := "java/util/ArrayList", name := "toArray", desc := "()[Ljava/lang/Object;" } : Jvm.MethodName)).before a0 Z = true := hw _ (List.mem_of_getElem? (i := 204) rfl)
theorem tw205 {a0 : Array Value} {Z : State} (hw : ∀ d ∈ tables_1, d.before a0 Z = true) : (Jvm.Cond.publicMethod ({ cls := "java/util/ArrayList", name := "toArray", desc := "()[Ljava/lang/Object;" } : Jvm.MethodName)).before a0 Z = true := hw _ (List.mem_of_getElem? (i := 205) rfl)
theorem tw206 {a0 : Array Value} {Z : State} (hw : ∀ d ∈ tables_1, d.before a0 Z = true) : (Jvm.Cond.unhidden "java/util/ArrayList" "toArray" "()[Ljava/lang/Object;").before a0 Z = true := hw _ (List.mem_of_getElem? (i := 206) rfl)
theorem tw207 {a0 : Array Value} {Z : State} (hw : ∀ d ∈ tables_1, d.before a0 Z = true) : (Jvm.Cond.code ({ cls := "java/util/ArrayList", name := "toArray", desc := "()[Ljava/lang/Object;" } : Jvm.MethodName) jdk_38_method_16_code (1 : Nat) (Option.some (Jvm.ClassFile.FieldType.array (Jvm.ClassFile.FieldType.object "java/lang/Object")))).before a0 Z = true := hw _ (List.mem_of_getElem? (i := 207) rfl)
theorem tw208 {a0 : Array Value} {Z : State} (hw : ∀ d ∈ tables_1, d.before a0 Z = true) : (Jvm.Cond.methodLink "java/util/ArrayList" (66 : Nat) ({ cls := "java/util/Arrays", name := "copyOf", desc := "([Ljava/lang/Object;I)[Ljava/lang/Object;" } : Jvm.MethodName)).before a0 Z = true := hw _ (List.mem_of_getElem? (i := 208) rfl)
theorem tw209 {a0 : Array Value} {Z : State} (hw : ∀ d ∈ tables_1, d.before a0 Z = true) : (Jvm.Cond.static ({ cls := "java/util/Arrays", name := "copyOf", desc := "([Ljava/lang/Object;I)[Ljava/lang/Object;" } : Jvm.MethodName)).before a0 Z = true := hw _ (List.mem_of_getElem? (i := 209) rfl)
theorem tw210 {a0 : Array Value} {Z : State} (hw : ∀ d ∈ tables_1, d.before a0 Z = true) : (Jvm.Cond.initialized "java/util/Arrays").before a0 Z = true := hw _ (List.mem_of_getElem? (i := 210) rfl)
theorem tw211 {a0 : Array Value} {Z : State} (hw : ∀ d ∈ tables_1, d.before a0 Z = true) : (Jvm.Cond.code ({ cls := "java/util/Arrays", name := "copyOf", desc := "([Ljava/lang/Object;I)[Ljava/lang/Object;" } : Jvm.MethodName) jdk_65_method_119_code (2 : Nat) (Option.some (Jvm.ClassFile.FieldType.array (Jvm.ClassFile.FieldType.object "java/lang/Object")))).before a0 Z = true := hw _ (List.mem_of_getElem? (i := 211) rfl)
theorem tw212 {a0 : Array Value} {Z : State} (hw : ∀ d ∈ tables_1, d.before a0 Z = true) : (Jvm.Cond.methodLink "java/util/Arrays" (86 : Nat) ({ cls := "java/lang/Object", name := "getClass", desc := "()Ljava/lang/Class;" } : Jvm.MethodName)).before a0 Z = true := hw _ (List.mem_of_getElem? (i := 212) rfl)
theorem tw213 {a0 : Array Value} {Z : State} (hw : ∀ d ∈ tables_1, d.before a0 Z = true) : (Jvm.Cond.declares ({ cls := "java/lang/Object", name := "getClass", desc := "()Ljava/lang/Class;" } : Jvm.MethodName)).before a0 Z = true := hw _ (List.mem_of_getElem? (i := 213) rfl)
theorem tw214 {a0 : Array Value} {Z : State} (hw : ∀ d ∈ tables_1, d.before a0 Z = true) : (Jvm.Cond.instanceMethod ({ cls := "java/lang/Object", name := "getClass", desc := "()Ljava/lang/Class;" } : Jvm.MethodName)).before a0 Z = true := hw _ (List.mem_of_getElem? (i := 214) rfl)
theorem tw215 {a0 : Array Value} {Z : State} (hw : ∀ d ∈ tables_1, d.before a0 Z = true) : (Jvm.Cond.selects "[Ljava/lang/Object;" ({ cls := "java/lang/Object", name := "getClass", desc := "()Ljava/lang/Class;" } : Jvm.MethodName) ({ cls := "java/lang/Object", name := "getClass", desc := "()Ljava/lang/Class;" } : Jvm.MethodName)).before a0 Z = true := hw _ (List.mem_of_getElem? (i := 215) rfl)
theorem tw216 {a0 : Array Value} {Z : State} (hw : ∀ d ∈ tables_1, d.before a0 Z = true) : (Jvm.Cond.native ({ cls := "java/lang/Object", name := "getClass", desc := "()Ljava/lang/Class;" } : Jvm.MethodName)).before a0 Z = true := hw _ (List.mem_of_getElem? (i := 216) rfl)
theorem tw218 {a0 : Array Value} {Z : State} (hw : ∀ d ∈ tables_1, d.before a0 Z = true) : (Jvm.Cond.methodLink "java/util/Arrays" (300 : Nat) ({ cls := "java/util/Arrays", name := "copyOf", desc := "([Ljava/lang/Object;ILjava/lang/Class;)[Ljava/lang/Object;" } : Jvm.MethodName)).before a0 Z = true := hw _ (List.mem_of_getElem? (i := 218) rfl)
theorem tw219 {a0 : Array Value} {Z : State} (hw : ∀ d ∈ tables_1, d.before a0 Z = true) : (Jvm.Cond.static ({ cls := "java/util/Arrays", name := "copyOf", desc := "([Ljava/lang/Object;ILjava/lang/Class;)[Ljava/lang/Object;" } : Jvm.MethodName)).before a0 Z = true := hw _ (List.mem_of_getElem? (i := 219) rfl)
theorem tw220 {a0 : Array Value} {Z : State} (hw : ∀ d ∈ tables_1, d.before a0 Z = true) : (Jvm.Cond.code ({ cls := "java/util/Arrays", name := "copyOf", desc := "([Ljava/lang/Object;ILjava/lang/Class;)[Ljava/lang/Object;" } : Jvm.MethodName) jdk_65_method_120_code (4 : Nat) (Option.some (Jvm.ClassFile.FieldType.array (Jvm.ClassFile.FieldType.object "java/lang/Object")))).before a0 Z = true := hw _ (List.mem_of_getElem? (i := 220) rfl)
theorem tw221 {a0 : Array Value} {Z : State} (hw : ∀ d ∈ tables_1, d.before a0 Z = true) : (Jvm.Cond.classLink "java/util/Arrays" (110 : Nat) "[Ljava/lang/Object;").before a0 Z = true := hw _ (List.mem_of_getElem? (i := 221) rfl)
theorem tw222 {a0 : Array Value} {Z : State} (hw : ∀ d ∈ tables_1, d.before a0 Z = true) : (Jvm.Cond.classLink "java/util/Arrays" (2 : Nat) "java/lang/Object").before a0 Z = true := hw _ (List.mem_of_getElem? (i := 222) rfl)
theorem tw223 {a0 : Array Value} {Z : State} (hw : ∀ d ∈ tables_1, d.before a0 Z = true) : (Jvm.Cond.methodLink "java/util/Arrays" (304 : Nat) ({ cls := "java/lang/Math", name := "min", desc := "(II)I" } : Jvm.MethodName)).before a0 Z = true := hw _ (List.mem_of_getElem? (i := 223) rfl)
theorem tw224 {a0 : Array Value} {Z : State} (hw : ∀ d ∈ tables_1, d.before a0 Z = true) : (Jvm.Cond.static ({ cls := "java/lang/Math", name := "min", desc := "(II)I" } : Jvm.MethodName)).before a0 Z = true := hw _ (List.mem_of_getElem? (i := 224) rfl)
theorem tw225 {a0 : Array Value} {Z : State} (hw : ∀ d ∈ tables_1, d.before a0 Z = true) : (Jvm.Cond.code ({ cls := "java/lang/Math", name := "min", desc := "(II)I" } : Jvm.MethodName) jdk_29_method_69_code (2 : Nat) (Option.some Jvm.ClassFile.FieldType.int)).before a0 Z = true := hw _ (List.mem_of_getElem? (i := 225) rfl)
theorem tw226 {a0 : Array Value} {Z : State} (hw : ∀ d ∈ tables_1, d.before a0 Z = true) : (Jvm.Cond.methodLink "java/util/Arrays" (150 : Nat) ({ cls := "java/lang/System", name := "arraycopy", desc := "(Ljava/lang/Object;ILjava/lang/Object;II)V" } : Jvm.MethodName)).before a0 Z = true := hw _ (List.mem_of_getElem? (i := 226) rfl)
theorem tw227 {a0 : Array Value} {Z : State} (hw : ∀ d ∈ tables_1, d.before a0 Z = true) : (Jvm.Cond.static ({ cls := "java/lang/System", name := "arraycopy", desc := "(Ljava/lang/Object;ILjava/lang/Object;II)V" } : Jvm.MethodName)).before a0 Z = true := hw _ (List.mem_of_getElem? (i := 227) rfl)
theorem tw228 {a0 : Array Value} {Z : State} (hw : ∀ d ∈ tables_1, d.before a0 Z = true) : (Jvm.Cond.initialized "java/lang/System").before a0 Z = true := hw _ (List.mem_of_getElem? (i := 228) rfl)
theorem tw229 {a0 : Array Value} {Z : State} (hw : ∀ d ∈ tables_1, d.before a0 Z = true) : (Jvm.Cond.native ({ cls := "java/lang/System", name := "arraycopy", desc := "(Ljava/lang/Object;ILjava/lang/Object;II)V" } : Jvm.MethodName)).before a0 Z = true := hw _ (List.mem_of_getElem? (i := 229) rfl)
theorem tw230 {a0 : Array Value} {Z : State} (hw : ∀ d ∈ tables_1, d.before a0 Z = true) : (Jvm.Cond.methodLink "java/util/ImmutableCollections" (34 : Nat) ({ cls := "java/util/List", name := "of", desc := "([Ljava/lang/Object;)Ljava/util/List;" } : Jvm.MethodName)).before a0 Z = true := hw _ (List.mem_of_getElem? (i := 230) rfl)
theorem tw231 {a0 : Array Value} {Z : State} (hw : ∀ d ∈ tables_1, d.before a0 Z = true) : (Jvm.Cond.static ({ cls := "java/util/List", name := "of", desc := "([Ljava/lang/Object;)Ljava/util/List;" } : Jvm.MethodName)).before a0 Z = true := hw _ (List.mem_of_getElem? (i := 231) rfl)
theorem tw232 {a0 : Array Value} {Z : State} (hw : ∀ d ∈ tables_1, d.before a0 Z = true) : (Jvm.Cond.code ({ cls := "java/util/List", name := "of", desc := "([Ljava/lang/Object;)Ljava/util/List;" } : Jvm.MethodName) jdk_40_method_47_code (2 : Nat) (Option.some (Jvm.ClassFile.FieldType.object "java/util/List"))).before a0 Z = true := hw _ (List.mem_of_getElem? (i := 232) rfl)
theorem tw233 {a0 : Array Value} {Z : State} (hw : ∀ d ∈ tables_1, d.before a0 Z = true) : (Jvm.Cond.classLink "java/util/List" (96 : Nat) "java/util/ImmutableCollections$List12").before a0 Z = true := hw _ (List.mem_of_getElem? (i := 233) rfl)
theorem tw234 {a0 : Array Value} {Z : State} (hw : ∀ d ∈ tables_1, d.before a0 Z = true) : (Jvm.Cond.instantiable "java/util/ImmutableCollections$List12" (2 : Nat)).before a0 Z = true := hw _ (List.mem_of_getElem? (i := 234) rfl)
theorem tw235 {a0 : Array Value} {Z : State} (hw : ∀ d ∈ tables_1, d.before a0 Z = true) : (Jvm.Cond.initialized "java/util/ImmutableCollections$List12").before a0 Z = true := hw _ (List.mem_of_getElem? (i := 235) rfl)
theorem tw236 {a0 : Array Value} {Z : State} (hw : ∀ d ∈ tables_1, d.before a0 Z = true) : (Jvm.Cond.methodLink "java/util/List" (98 : Nat) ({ cls := "java/util/ImmutableCollections$List12", name := "<init>", desc := "(Ljava/lang/Object;)V" } : Jvm.MethodName)).before a0 Z = true := hw _ (List.mem_of_getElem? (i := 236) rfl)
theorem tw237 {a0 : Array Value} {Z : State} (hw : ∀ d ∈ tables_1, d.before a0 Z = true) : (Jvm.Cond.instanceMethod ({ cls := "java/util/ImmutableCollections$List12", name := "<init>", desc := "(Ljava/lang/Object;)V" } : Jvm.MethodName)).before a0 Z = true := hw _ (List.mem_of_getElem? (i := 237) rfl)
theorem tw239 {a0 : Array Value} {Z : State} (hw : ∀ d ∈ tables_1, d.before a0 Z = true) : (Jvm.Cond.code ({ cls := "java/util/ImmutableCollections$List12", name := "<init>", desc := "(Ljava/lang/Object;)V" } : Jvm.MethodName) jdk_44_method_1_code (2 : Nat) (Option.none : Option Jvm.ClassFile.FieldType)).before a0 Z = true := hw _ (List.mem_of_getElem? (i := 239) rfl)
theorem tw240 {a0 : Array Value} {Z : State} (hw : ∀ d ∈ tables_1, d.before a0 Z = true) : (Jvm.Cond.methodLink "java/util/ImmutableCollections$List12" (1 : Nat) ({ cls := "java/util/ImmutableCollections$AbstractImmutableList", name := "<init>", desc := "()V" } : Jvm.MethodName)).before a0 Z = true := hw _ (List.mem_of_getElem? (i := 240) rfl)
theorem tw241 {a0 : Array Value} {Z : State} (hw : ∀ d ∈ tables_1, d.before a0 Z = true) : (Jvm.Cond.instanceMethod ({ cls := "java/util/ImmutableCollections$AbstractImmutableList", name := "<init>", desc := "()V" } : Jvm.MethodName)).before a0 Z = true := hw _ (List.mem_of_getElem? (i := 241) rfl)
theorem tw244 {a0 : Array Value} {Z : State} (hw : ∀ d ∈ tables_1, d.before a0 Z = true) : (Jvm.Cond.initialized "java/util/ImmutableCollections$AbstractImmutableList").before a0 Z = true := hw _ (List.mem_of_getElem? (i := 244) rfl)
theorem tw245 {a0 : Array Value} {Z : State} (hw : ∀ d ∈ tables_1, d.before a0 Z = true) : (Jvm.Cond.code ({ cls := "java/util/ImmutableCollections$AbstractImmutableList", name := "<init>", desc := "()V" } : Jvm.MethodName) jdk_46_method_1_code (1 : Nat) (Option.none : Option Jvm.ClassFile.FieldType)).before a0 Z = true := hw _ (List.mem_of_getElem? (i := 245) rfl)
theorem tw246 {a0 : Array Value} {Z : State} (hw : ∀ d ∈ tables_1, d.before a0 Z = true) : (Jvm.Cond.methodLink "java/util/ImmutableCollections$AbstractImmutableList" (1 : Nat) ({ cls := "java/util/ImmutableCollections$AbstractImmutableCollection", name := "<init>", desc := "()V" } : Jvm.MethodName)).before a0 Z = true := hw _ (List.mem_of_getElem? (i := 246) rfl)
theorem tw247 {a0 : Array Value} {Z : State} (hw : ∀ d ∈ tables_1, d.before a0 Z = true) : (Jvm.Cond.instanceMethod ({ cls := "java/util/ImmutableCollections$AbstractImmutableCollection", name := "<init>", desc := "()V" } : Jvm.MethodName)).before a0 Z = true := hw _ (List.mem_of_getElem? (i := 247) rfl)
theorem tw250 {a0 : Array Value} {Z : State} (hw : ∀ d ∈ tables_1, d.before a0 Z = true) : (Jvm.Cond.initialized "java/util/ImmutableCollections$AbstractImmutableCollection").before a0 Z = true := hw _ (List.mem_of_getElem? (i := 250) rfl)
theorem tw251 {a0 : Array Value} {Z : State} (hw : ∀ d ∈ tables_1, d.before a0 Z = true) : (Jvm.Cond.code ({ cls := "java/util/ImmutableCollections$AbstractImmutableCollection", name := "<init>", desc := "()V" } : Jvm.MethodName) jdk_47_method_1_code (1 : Nat) (Option.none : Option Jvm.ClassFile.FieldType)).before a0 Z = true := hw _ (List.mem_of_getElem? (i := 251) rfl)
theorem tw252 {a0 : Array Value} {Z : State} (hw : ∀ d ∈ tables_1, d.before a0 Z = true) : (Jvm.Cond.methodLink "java/util/ImmutableCollections$AbstractImmutableCollection" (1 : Nat) ({ cls := "java/util/AbstractCollection", name := "<init>", desc := "()V" } : Jvm.MethodName)).before a0 Z = true := hw _ (List.mem_of_getElem? (i := 252) rfl)
theorem tw254 {a0 : Array Value} {Z : State} (hw : ∀ d ∈ tables_1, d.before a0 Z = true) : (Jvm.Cond.methodLink "java/util/ImmutableCollections$List12" (7 : Nat) ({ cls := "java/util/Objects", name := "requireNonNull", desc := "(Ljava/lang/Object;)Ljava/lang/Object;" } : Jvm.MethodName)).before a0 Z = true := hw _ (List.mem_of_getElem? (i := 254) rfl)
theorem tw255 {a0 : Array Value} {Z : State} (hw : ∀ d ∈ tables_1, d.before a0 Z = true) : (Jvm.Cond.static ({ cls := "java/util/Objects", name := "requireNonNull", desc := "(Ljava/lang/Object;)Ljava/lang/Object;" } : Jvm.MethodName)).before a0 Z = true := hw _ (List.mem_of_getElem? (i := 255) rfl)
theorem tw256 {a0 : Array Value} {Z : State} (hw : ∀ d ∈ tables_1, d.before a0 Z = true) : (Jvm.Cond.initialized "java/util/Objects").before a0 Z = true := hw _ (List.mem_of_getElem? (i := 256) rfl)
theorem tw257 {a0 : Array Value} {Z : State} (hw : ∀ d ∈ tables_1, d.before a0 Z = true) : (Jvm.Cond.code ({ cls := "java/util/Objects", name := "requireNonNull", desc := "(Ljava/lang/Object;)Ljava/lang/Object;" } : Jvm.MethodName) jdk_31_method_10_code (1 : Nat) (Option.some (Jvm.ClassFile.FieldType.object "java/lang/Object"))).before a0 Z = true := hw _ (List.mem_of_getElem? (i := 257) rfl)
theorem tw258 {a0 : Array Value} {Z : State} (hw : ∀ d ∈ tables_1, d.before a0 Z = true) : (Jvm.Cond.fieldLink "java/util/ImmutableCollections$List12" (13 : Nat) "java/util/ImmutableCollections$List12" "e0" "Ljava/lang/Object;").before a0 Z = true := hw _ (List.mem_of_getElem? (i := 258) rfl)
theorem tw259 {a0 : Array Value} {Z : State} (hw : ∀ d ∈ tables_1, d.before a0 Z = true) : (Jvm.Cond.laysFinal "java/util/ImmutableCollections$List12" "java/util/ImmutableCollections$List12" "e0" "Ljava/lang/Object;").before a0 Z = true := hw _ (List.mem_of_getElem? (i := 259) rfl)
theorem tw260 {a0 : Array Value} {Z : State} (hw : ∀ d ∈ tables_1, d.before a0 Z = true) : (Jvm.Cond.fieldLinkNest "java/util/ImmutableCollections$List12" (19 : Nat) "java/util/ImmutableCollections" "EMPTY" "Ljava/lang/Object;" "java/util/ImmutableCollections").before a0 Z = true := hw _ (List.mem_of_getElem? (i := 260) rfl)
theorem tw261 {a0 : Array Value} {Z : State} (hw : ∀ d ∈ tables_1, d.before a0 Z = true) : (Jvm.Cond.fieldLink "java/util/ImmutableCollections$List12" (24 : Nat) "java/util/ImmutableCollections$List12" "e1" "Ljava/lang/Object;").before a0 Z = true := hw _ (List.mem_of_getElem? (i := 261) rfl)
theorem tw262 {a0 : Array Value} {Z : State} (hw : ∀ d ∈ tables_1, d.before a0 Z = true) : (Jvm.Cond.laysFinal "java/util/ImmutableCollections$List12" "java/util/ImmutableCollections$List12" "e1" "Ljava/lang/Object;").before a0 Z = true := hw _ (List.mem_of_getElem? (i := 262) rfl)
-- decode facts, names, descriptors
theorem d_jdk_43_method_3_0 : decode jdk_43_method_3_code 0 = .ok (.iload_n 0, 1) := by decide +kernel
theorem d_jdk_43_method_3_1 : decode jdk_43_method_3_code 1 = .ok (.sipush 255, 3) := by decide +kernel
theorem d_jdk_43_method_3_4 : decode jdk_43_method_3_code 4 = .ok (.if_icmp .gt 7, 3) := by decide +kernel
theorem d_jdk_43_method_3_7 : decode jdk_43_method_3_code 7 = .ok (.iconst 1, 1) := by decide +kernel
theorem d_jdk_43_method_3_8 : decode jdk_43_method_3_code 8 = .ok (.goto 4, 3) := by decide +kernel
theorem d_jdk_43_method_3_12 : decode jdk_43_method_3_code 12 = .ok (.ireturn, 1) := by decide +kernel
theorem d_jdk_43_method_46_0 : decode jdk_43_method_46_code 0 = .ok (.iconst 1, 1) := by decide +kernel
theorem d_jdk_43_method_46_1 : decode jdk_43_method_46_code 1 = .ok (.newarray .byte, 2) := by decide +kernel
theorem d_jdk_43_method_46_3 : decode jdk_43_method_46_code 3 = .ok (.dup, 1) := by decide +kernel
theorem d_jdk_43_method_46_4 : decode jdk_43_method_46_code 4 = .ok (.iconst 0, 1) := by decide +kernel
theorem d_jdk_43_method_46_5 : decode jdk_43_method_46_code 5 = .ok (.iload_n 0, 1) := by decide +kernel
theorem d_jdk_43_method_46_6 : decode jdk_43_method_46_code 6 = .ok (.i2b, 1) := by decide +kernel
theorem d_jdk_43_method_46_7 : decode jdk_43_method_46_code 7 = .ok (.bastore, 1) := by decide +kernel
theorem d_jdk_43_method_46_8 : decode jdk_43_method_46_code 8 = .ok (.areturn, 1) := by decide +kernel
theorem d_jdk_42_method_151_0 : decode jdk_42_method_151_code 0 = .ok (.aload_n 0, 1) := by decide +kernel
theorem d_jdk_42_method_151_1 : decode jdk_42_method_151_code 1 = .ok (.invokespecial 1, 3) := by decide +kernel
theorem d_jdk_42_method_151_4 : decode jdk_42_method_151_code 4 = .ok (.aload_n 0, 1) := by decide +kernel
theorem d_jdk_42_method_151_5 : decode jdk_42_method_151_code 5 = .ok (.aload_n 1, 1) := by decide +kernel
theorem d_jdk_42_method_151_6 : decode jdk_42_method_151_code 6 = .ok (.putfield 9, 3) := by decide +kernel
theorem d_jdk_42_method_151_9 : decode jdk_42_method_151_code 9 = .ok (.aload_n 0, 1) := by decide +kernel
theorem d_jdk_42_method_151_10 : decode jdk_42_method_151_code 10 = .ok (.iload_n 2, 1) := by decide +kernel
theorem d_jdk_42_method_151_11 : decode jdk_42_method_151_code 11 = .ok (.putfield 15, 3) := by decide +kernel
theorem d_jdk_42_method_151_14 : decode jdk_42_method_151_code 14 = .ok (.return_, 1) := by decide +kernel
theorem d_jdk_42_method_139_0 : decode jdk_42_method_139_code 0 = .ok (.getstatic 38, 3) := by decide +kernel
theorem d_jdk_42_method_139_3 : decode jdk_42_method_139_code 3 = .ok (.ifCond .eq 23, 3) := by decide +kernel
theorem d_jdk_42_method_139_6 : decode jdk_42_method_139_code 6 = .ok (.iload_n 0, 1) := by decide +kernel
theorem d_jdk_42_method_139_7 : decode jdk_42_method_139_code 7 = .ok (.invokestatic 1015, 3) := by decide +kernel
theorem d_jdk_42_method_139_10 : decode jdk_42_method_139_code 10 = .ok (.ifCond .eq 16, 3) := by decide +kernel
theorem d_jdk_42_method_139_13 : decode jdk_42_method_139_code 13 = .ok (.new 10, 3) := by decide +kernel
theorem d_jdk_42_method_139_16 : decode jdk_42_method_139_code 16 = .ok (.dup, 1) := by decide +kernel
theorem d_jdk_42_method_139_17 : decode jdk_42_method_139_code 17 = .ok (.iload_n 0, 1) := by decide +kernel
theorem d_jdk_42_method_139_18 : decode jdk_42_method_139_code 18 = .ok (.invokestatic 1018, 3) := by decide +kernel
theorem d_jdk_42_method_139_21 : decode jdk_42_method_139_code 21 = .ok (.iconst 0, 1) := by decide +kernel
theorem d_jdk_42_method_139_22 : decode jdk_42_method_139_code 22 = .ok (.invokespecial 209, 3) := by decide +kernel
theorem d_jdk_42_method_139_25 : decode jdk_42_method_139_code 25 = .ok (.areturn, 1) := by decide +kernel
theorem d_jdk_40_method_36_0 : decode jdk_40_method_36_code 0 = .ok (.getstatic 90, 3) := by decide +kernel
theorem d_jdk_40_method_36_3 : decode jdk_40_method_36_code 3 = .ok (.areturn, 1) := by decide +kernel
theorem d_jdk_96_method_17_0 : decode jdk_96_method_17_code 0 = .ok (.getstatic 9, 3) := by decide +kernel
theorem d_jdk_96_method_17_3 : decode jdk_96_method_17_code 3 = .ok (.areturn, 1) := by decide +kernel
theorem d_jdk_56_method_3_0 : decode jdk_56_method_3_code 0 = .ok (.aload_n 0, 1) := by decide +kernel
theorem d_jdk_56_method_3_1 : decode jdk_56_method_3_code 1 = .ok (.instanceof 10, 3) := by decide +kernel
theorem d_jdk_56_method_3_4 : decode jdk_56_method_3_code 4 = .ok (.ifCond .ne 22, 3) := by decide +kernel
theorem d_jdk_56_method_3_7 : decode jdk_56_method_3_code 7 = .ok (.aload_n 0, 1) := by decide +kernel
theorem d_jdk_56_method_3_8 : decode jdk_56_method_3_code 8 = .ok (.instanceof 12, 3) := by decide +kernel
theorem d_jdk_56_method_3_11 : decode jdk_56_method_3_code 11 = .ok (.ifCond .eq 20, 3) := by decide +kernel
theorem d_jdk_56_method_3_14 : decode jdk_56_method_3_code 14 = .ok (.aload_n 0, 1) := by decide +kernel
theorem d_jdk_56_method_3_15 : decode jdk_56_method_3_code 15 = .ok (.checkcast 12, 3) := by decide +kernel
theorem d_jdk_56_method_3_18 : decode jdk_56_method_3_code 18 = .ok (.astore_n 1, 1) := by decide +kernel
theorem d_jdk_56_method_3_19 : decode jdk_56_method_3_code 19 = .ok (.aload_n 1, 1) := by decide +kernel
theorem d_jdk_56_method_3_20 : decode jdk_56_method_3_code 20 = .ok (.getfield 14, 3) := by decide +kernel
theorem d_jdk_56_method_3_23 : decode jdk_56_method_3_code 23 = .ok (.ifCond .ne 8, 3) := by decide +kernel
theorem d_jdk_56_method_3_26 : decode jdk_56_method_3_code 26 = .ok (.aload_n 0, 1) := by decide +kernel
theorem d_jdk_56_method_3_27 : decode jdk_56_method_3_code 27 = .ok (.checkcast 18, 3) := by decide +kernel
theorem d_jdk_56_method_3_30 : decode jdk_56_method_3_code 30 = .ok (.areturn, 1) := by decide +kernel
theorem d_jdk_40_method_48_0 : decode jdk_40_method_48_code 0 = .ok (.aload_n 0, 1) := by decide +kernel
theorem d_jdk_40_method_48_1 : decode jdk_40_method_48_code 1 = .ok (.invokestatic 112, 3) := by decide +kernel
theorem d_jdk_40_method_48_4 : decode jdk_40_method_48_code 4 = .ok (.areturn, 1) := by decide +kernel
theorem d_jdk_96_method_29_0 : decode jdk_96_method_29_code 0 = .ok (.aload_n 0, 1) := by decide +kernel
theorem d_jdk_96_method_29_1 : decode jdk_96_method_29_code 1 = .ok (.instanceof 31, 3) := by decide +kernel
theorem d_jdk_96_method_29_4 : decode jdk_96_method_29_code 4 = .ok (.ifCond .eq 8, 3) := by decide +kernel
theorem d_jdk_96_method_29_7 : decode jdk_96_method_29_code 7 = .ok (.aload_n 0, 1) := by decide +kernel
theorem d_jdk_96_method_29_8 : decode jdk_96_method_29_code 8 = .ok (.checkcast 33, 3) := by decide +kernel
theorem d_jdk_96_method_29_11 : decode jdk_96_method_29_code 11 = .ok (.areturn, 1) := by decide +kernel
theorem d_jdk_22_method_1_0 : decode jdk_22_method_1_code 0 = .ok (.aload_n 0, 1) := by decide +kernel
theorem d_jdk_22_method_1_1 : decode jdk_22_method_1_code 1 = .ok (.invokespecial 1, 3) := by decide +kernel
theorem d_jdk_22_method_1_4 : decode jdk_22_method_1_code 4 = .ok (.return_, 1) := by decide +kernel
theorem d_jdk_39_method_1_0 : decode jdk_39_method_1_code 0 = .ok (.aload_n 0, 1) := by decide +kernel
theorem d_jdk_39_method_1_1 : decode jdk_39_method_1_code 1 = .ok (.invokespecial 1, 3) := by decide +kernel
theorem d_jdk_39_method_1_4 : decode jdk_39_method_1_code 4 = .ok (.aload_n 0, 1) := by decide +kernel
theorem d_jdk_39_method_1_5 : decode jdk_39_method_1_code 5 = .ok (.iconst 0, 1) := by decide +kernel
theorem d_jdk_39_method_1_6 : decode jdk_39_method_1_code 6 = .ok (.putfield 7, 3) := by decide +kernel
theorem d_jdk_39_method_1_9 : decode jdk_39_method_1_code 9 = .ok (.return_, 1) := by decide +kernel
theorem d_jdk_38_method_2_0 : decode jdk_38_method_2_code 0 = .ok (.aload_n 0, 1) := by decide +kernel
theorem d_jdk_38_method_2_1 : decode jdk_38_method_2_code 1 = .ok (.invokespecial 1, 3) := by decide +kernel
theorem d_jdk_38_method_2_4 : decode jdk_38_method_2_code 4 = .ok (.aload_n 0, 1) := by decide +kernel
theorem d_jdk_38_method_2_5 : decode jdk_38_method_2_code 5 = .ok (.getstatic 39, 3) := by decide +kernel
theorem d_jdk_38_method_2_8 : decode jdk_38_method_2_code 8 = .ok (.putfield 9, 3) := by decide +kernel
theorem d_jdk_38_method_2_11 : decode jdk_38_method_2_code 11 = .ok (.return_, 1) := by decide +kernel
theorem d_jdk_29_method_65_0 : decode jdk_29_method_65_code 0 = .ok (.iload_n 0, 1) := by decide +kernel
theorem d_jdk_29_method_65_1 : decode jdk_29_method_65_code 1 = .ok (.iload_n 1, 1) := by decide +kernel
theorem d_jdk_29_method_65_2 : decode jdk_29_method_65_code 2 = .ok (.if_icmp .lt 7, 3) := by decide +kernel
theorem d_jdk_29_method_65_5 : decode jdk_29_method_65_code 5 = .ok (.iload_n 0, 1) := by decide +kernel
theorem d_jdk_29_method_65_6 : decode jdk_29_method_65_code 6 = .ok (.goto 4, 3) := by decide +kernel
theorem d_jdk_29_method_65_10 : decode jdk_29_method_65_code 10 = .ok (.ireturn, 1) := by decide +kernel
theorem d_jdk_38_method_6_0 : decode jdk_38_method_6_code 0 = .ok (.aload_n 0, 1) := by decide +kernel
theorem d_jdk_38_method_6_1 : decode jdk_38_method_6_code 1 = .ok (.getfield 9, 3) := by decide +kernel
theorem d_jdk_38_method_6_4 : decode jdk_38_method_6_code 4 = .ok (.arraylength, 1) := by decide +kernel
theorem d_jdk_38_method_6_5 : decode jdk_38_method_6_code 5 = .ok (.istore_n 2, 1) := by decide +kernel
theorem d_jdk_38_method_6_6 : decode jdk_38_method_6_code 6 = .ok (.iload_n 2, 1) := by decide +kernel
theorem d_jdk_38_method_6_7 : decode jdk_38_method_6_code 7 = .ok (.ifCond .gt 13, 3) := by decide +kernel
theorem d_jdk_38_method_6_10 : decode jdk_38_method_6_code 10 = .ok (.aload_n 0, 1) := by decide +kernel
theorem d_jdk_38_method_6_11 : decode jdk_38_method_6_code 11 = .ok (.getfield 9, 3) := by decide +kernel
theorem d_jdk_38_method_6_14 : decode jdk_38_method_6_code 14 = .ok (.getstatic 39, 3) := by decide +kernel
theorem d_jdk_38_method_6_17 : decode jdk_38_method_6_code 17 = .ok (.if_acmp .eq 28, 3) := by decide +kernel
theorem d_jdk_38_method_6_45 : decode jdk_38_method_6_code 45 = .ok (.aload_n 0, 1) := by decide +kernel
theorem d_jdk_38_method_6_46 : decode jdk_38_method_6_code 46 = .ok (.bipush 10, 2) := by decide +kernel
theorem d_jdk_38_method_6_48 : decode jdk_38_method_6_code 48 = .ok (.iload_n 1, 1) := by decide +kernel
theorem d_jdk_38_method_6_49 : decode jdk_38_method_6_code 49 = .ok (.invokestatic 79, 3) := by decide +kernel
theorem d_jdk_38_method_6_52 : decode jdk_38_method_6_code 52 = .ok (.anewarray 7, 3) := by decide +kernel
theorem d_jdk_38_method_6_55 : decode jdk_38_method_6_code 55 = .ok (.dup_x1, 1) := by decide +kernel
theorem d_jdk_38_method_6_56 : decode jdk_38_method_6_code 56 = .ok (.putfield 9, 3) := by decide +kernel
theorem d_jdk_38_method_6_59 : decode jdk_38_method_6_code 59 = .ok (.areturn, 1) := by decide +kernel
theorem d_jdk_38_method_7_0 : decode jdk_38_method_7_code 0 = .ok (.aload_n 0, 1) := by decide +kernel
theorem d_jdk_38_method_7_1 : decode jdk_38_method_7_code 1 = .ok (.aload_n 0, 1) := by decide +kernel
theorem d_jdk_38_method_7_2 : decode jdk_38_method_7_code 2 = .ok (.getfield 48, 3) := by decide +kernel
theorem d_jdk_38_method_7_5 : decode jdk_38_method_7_code 5 = .ok (.iconst 1, 1) := by decide +kernel
theorem d_jdk_38_method_7_6 : decode jdk_38_method_7_code 6 = .ok (.iadd, 1) := by decide +kernel
theorem d_jdk_38_method_7_7 : decode jdk_38_method_7_code 7 = .ok (.invokevirtual 69, 3) := by decide +kernel
theorem d_jdk_38_method_7_10 : decode jdk_38_method_7_code 10 = .ok (.areturn, 1) := by decide +kernel
theorem d_jdk_38_method_24_0 : decode jdk_38_method_24_code 0 = .ok (.iload_n 3, 1) := by decide +kernel
theorem d_jdk_38_method_24_1 : decode jdk_38_method_24_code 1 = .ok (.aload_n 2, 1) := by decide +kernel
theorem d_jdk_38_method_24_2 : decode jdk_38_method_24_code 2 = .ok (.arraylength, 1) := by decide +kernel
theorem d_jdk_38_method_24_3 : decode jdk_38_method_24_code 3 = .ok (.if_icmp .ne 8, 3) := by decide +kernel
theorem d_jdk_38_method_24_6 : decode jdk_38_method_24_code 6 = .ok (.aload_n 0, 1) := by decide +kernel
theorem d_jdk_38_method_24_7 : decode jdk_38_method_24_code 7 = .ok (.invokevirtual 129, 3) := by decide +kernel
theorem d_jdk_38_method_24_10 : decode jdk_38_method_24_code 10 = .ok (.astore_n 2, 1) := by decide +kernel
theorem d_jdk_38_method_24_11 : decode jdk_38_method_24_code 11 = .ok (.aload_n 2, 1) := by decide +kernel
theorem d_jdk_38_method_24_12 : decode jdk_38_method_24_code 12 = .ok (.iload_n 3, 1) := by decide +kernel
theorem d_jdk_38_method_24_13 : decode jdk_38_method_24_code 13 = .ok (.aload_n 1, 1) := by decide +kernel
theorem d_jdk_38_method_24_14 : decode jdk_38_method_24_code 14 = .ok (.aastore, 1) := by decide +kernel
theorem d_jdk_38_method_24_15 : decode jdk_38_method_24_code 15 = .ok (.aload_n 0, 1) := by decide +kernel
theorem d_jdk_38_method_24_16 : decode jdk_38_method_24_code 16 = .ok (.iload_n 3, 1) := by decide +kernel
theorem d_jdk_38_method_24_17 : decode jdk_38_method_24_code 17 = .ok (.iconst 1, 1) := by decide +kernel
theorem d_jdk_38_method_24_18 : decode jdk_38_method_24_code 18 = .ok (.iadd, 1) := by decide +kernel
theorem d_jdk_38_method_24_19 : decode jdk_38_method_24_code 19 = .ok (.putfield 48, 3) := by decide +kernel
theorem d_jdk_38_method_24_22 : decode jdk_38_method_24_code 22 = .ok (.return_, 1) := by decide +kernel
theorem d_jdk_38_method_25_0 : decode jdk_38_method_25_code 0 = .ok (.aload_n 0, 1) := by decide +kernel
theorem d_jdk_38_method_25_1 : decode jdk_38_method_25_code 1 = .ok (.dup, 1) := by decide +kernel
theorem d_jdk_38_method_25_2 : decode jdk_38_method_25_code 2 = .ok (.getfield 63, 3) := by decide +kernel
theorem d_jdk_38_method_25_5 : decode jdk_38_method_25_code 5 = .ok (.iconst 1, 1) := by decide +kernel
theorem d_jdk_38_method_25_6 : decode jdk_38_method_25_code 6 = .ok (.iadd, 1) := by decide +kernel
theorem d_jdk_38_method_25_7 : decode jdk_38_method_25_code 7 = .ok (.putfield 63, 3) := by decide +kernel
theorem d_jdk_38_method_25_10 : decode jdk_38_method_25_code 10 = .ok (.aload_n 0, 1) := by decide +kernel
theorem d_jdk_38_method_25_11 : decode jdk_38_method_25_code 11 = .ok (.aload_n 1, 1) := by decide +kernel
theorem d_jdk_38_method_25_12 : decode jdk_38_method_25_code 12 = .ok (.aload_n 0, 1) := by decide +kernel
theorem d_jdk_38_method_25_13 : decode jdk_38_method_25_code 13 = .ok (.getfield 9, 3) := by decide +kernel
theorem d_jdk_38_method_25_16 : decode jdk_38_method_25_code 16 = .ok (.aload_n 0, 1) := by decide +kernel
theorem d_jdk_38_method_25_17 : decode jdk_38_method_25_code 17 = .ok (.getfield 48, 3) := by decide +kernel
theorem d_jdk_38_method_25_20 : decode jdk_38_method_25_code 20 = .ok (.invokevirtual 131, 3) := by decide +kernel
theorem d_jdk_38_method_25_23 : decode jdk_38_method_25_code 23 = .ok (.iconst 1, 1) := by decide +kernel
theorem d_jdk_38_method_25_24 : decode jdk_38_method_25_code 24 = .ok (.ireturn, 1) := by decide +kernel
theorem d_jdk_38_method_9_0 : decode jdk_38_method_9_code 0 = .ok (.aload_n 0, 1) := by decide +kernel
theorem d_jdk_38_method_9_1 : decode jdk_38_method_9_code 1 = .ok (.getfield 48, 3) := by decide +kernel
theorem d_jdk_38_method_9_4 : decode jdk_38_method_9_code 4 = .ok (.ifCond .ne 7, 3) := by decide +kernel
theorem d_jdk_38_method_9_7 : decode jdk_38_method_9_code 7 = .ok (.iconst 1, 1) := by decide +kernel
theorem d_jdk_38_method_9_8 : decode jdk_38_method_9_code 8 = .ok (.goto 4, 3) := by decide +kernel
theorem d_jdk_38_method_9_12 : decode jdk_38_method_9_code 12 = .ok (.ireturn, 1) := by decide +kernel
theorem d_jdk_38_method_9_11 : decode jdk_38_method_9_code 11 = .ok (.iconst 0, 1) := by decide +kernel
theorem d_jdk_29_method_69_0 : decode jdk_29_method_69_code 0 = .ok (.iload_n 0, 1) := by decide +kernel
theorem d_jdk_29_method_69_1 : decode jdk_29_method_69_code 1 = .ok (.iload_n 1, 1) := by decide +kernel
theorem d_jdk_29_method_69_2 : decode jdk_29_method_69_code 2 = .ok (.if_icmp .gt 7, 3) := by decide +kernel
theorem d_jdk_29_method_69_9 : decode jdk_29_method_69_code 9 = .ok (.iload_n 1, 1) := by decide +kernel
theorem d_jdk_29_method_69_10 : decode jdk_29_method_69_code 10 = .ok (.ireturn, 1) := by decide +kernel
theorem d_jdk_65_method_120_0 : decode jdk_65_method_120_code 0 = .ok (.aload_n 2, 1) := by decide +kernel
theorem d_jdk_65_method_120_1 : decode jdk_65_method_120_code 1 = .ok (.ldc 110, 2) := by decide +kernel
theorem d_jdk_65_method_120_3 : decode jdk_65_method_120_code 3 = .ok (.if_acmp .ne 10, 3) := by decide +kernel
theorem d_jdk_65_method_120_6 : decode jdk_65_method_120_code 6 = .ok (.iload_n 1, 1) := by decide +kernel
theorem d_jdk_65_method_120_7 : decode jdk_65_method_120_code 7 = .ok (.anewarray 2, 3) := by decide +kernel
theorem d_jdk_65_method_120_10 : decode jdk_65_method_120_code 10 = .ok (.goto 14, 3) := by decide +kernel
theorem d_jdk_65_method_120_24 : decode jdk_65_method_120_code 24 = .ok (.astore_n 3, 1) := by decide +kernel
theorem d_jdk_65_method_120_25 : decode jdk_65_method_120_code 25 = .ok (.aload_n 0, 1) := by decide +kernel
theorem d_jdk_65_method_120_26 : decode jdk_65_method_120_code 26 = .ok (.iconst 0, 1) := by decide +kernel
theorem d_jdk_65_method_120_27 : decode jdk_65_method_120_code 27 = .ok (.aload_n 3, 1) := by decide +kernel
theorem d_jdk_65_method_120_28 : decode jdk_65_method_120_code 28 = .ok (.iconst 0, 1) := by decide +kernel
theorem d_jdk_65_method_120_29 : decode jdk_65_method_120_code 29 = .ok (.aload_n 0, 1) := by decide +kernel
theorem d_jdk_65_method_120_30 : decode jdk_65_method_120_code 30 = .ok (.arraylength, 1) := by decide +kernel
theorem d_jdk_65_method_120_31 : decode jdk_65_method_120_code 31 = .ok (.iload_n 1, 1) := by decide +kernel
theorem d_jdk_65_method_120_32 : decode jdk_65_method_120_code 32 = .ok (.invokestatic 304, 3) := by decide +kernel
theorem d_jdk_65_method_120_35 : decode jdk_65_method_120_code 35 = .ok (.invokestatic 150, 3) := by decide +kernel
theorem d_jdk_65_method_120_38 : decode jdk_65_method_120_code 38 = .ok (.aload_n 3, 1) := by decide +kernel
theorem d_jdk_65_method_120_39 : decode jdk_65_method_120_code 39 = .ok (.areturn, 1) := by decide +kernel
theorem d_jdk_65_method_119_0 : decode jdk_65_method_119_code 0 = .ok (.aload_n 0, 1) := by decide +kernel
theorem d_jdk_65_method_119_1 : decode jdk_65_method_119_code 1 = .ok (.iload_n 1, 1) := by decide +kernel
theorem d_jdk_65_method_119_2 : decode jdk_65_method_119_code 2 = .ok (.aload_n 0, 1) := by decide +kernel
theorem d_jdk_65_method_119_3 : decode jdk_65_method_119_code 3 = .ok (.invokevirtual 86, 3) := by decide +kernel
theorem d_jdk_65_method_119_6 : decode jdk_65_method_119_code 6 = .ok (.invokestatic 300, 3) := by decide +kernel
theorem d_jdk_65_method_119_9 : decode jdk_65_method_119_code 9 = .ok (.areturn, 1) := by decide +kernel
theorem d_jdk_38_method_16_0 : decode jdk_38_method_16_code 0 = .ok (.aload_n 0, 1) := by decide +kernel
theorem d_jdk_38_method_16_1 : decode jdk_38_method_16_code 1 = .ok (.getfield 9, 3) := by decide +kernel
theorem d_jdk_38_method_16_4 : decode jdk_38_method_16_code 4 = .ok (.aload_n 0, 1) := by decide +kernel
theorem d_jdk_38_method_16_5 : decode jdk_38_method_16_code 5 = .ok (.getfield 48, 3) := by decide +kernel
theorem d_jdk_38_method_16_8 : decode jdk_38_method_16_code 8 = .ok (.invokestatic 66, 3) := by decide +kernel
theorem d_jdk_38_method_16_11 : decode jdk_38_method_16_code 11 = .ok (.areturn, 1) := by decide +kernel
theorem d_jdk_47_method_1_0 : decode jdk_47_method_1_code 0 = .ok (.aload_n 0, 1) := by decide +kernel
theorem d_jdk_47_method_1_1 : decode jdk_47_method_1_code 1 = .ok (.invokespecial 1, 3) := by decide +kernel
theorem d_jdk_47_method_1_4 : decode jdk_47_method_1_code 4 = .ok (.return_, 1) := by decide +kernel
theorem d_jdk_46_method_1_0 : decode jdk_46_method_1_code 0 = .ok (.aload_n 0, 1) := by decide +kernel
theorem d_jdk_46_method_1_1 : decode jdk_46_method_1_code 1 = .ok (.invokespecial 1, 3) := by decide +kernel
theorem d_jdk_46_method_1_4 : decode jdk_46_method_1_code 4 = .ok (.return_, 1) := by decide +kernel
theorem d_jdk_31_method_10_0 : decode jdk_31_method_10_code 0 = .ok (.aload_n 0, 1) := by decide +kernel
theorem d_jdk_31_method_10_1 : decode jdk_31_method_10_code 1 = .ok (.ifnonnull 11, 3) := by decide +kernel
theorem d_jdk_31_method_10_12 : decode jdk_31_method_10_code 12 = .ok (.aload_n 0, 1) := by decide +kernel
theorem d_jdk_31_method_10_13 : decode jdk_31_method_10_code 13 = .ok (.areturn, 1) := by decide +kernel
theorem d_jdk_44_method_1_0 : decode jdk_44_method_1_code 0 = .ok (.aload_n 0, 1) := by decide +kernel
theorem d_jdk_44_method_1_1 : decode jdk_44_method_1_code 1 = .ok (.invokespecial 1, 3) := by decide +kernel
theorem d_jdk_44_method_1_4 : decode jdk_44_method_1_code 4 = .ok (.aload_n 0, 1) := by decide +kernel
theorem d_jdk_44_method_1_5 : decode jdk_44_method_1_code 5 = .ok (.aload_n 1, 1) := by decide +kernel
theorem d_jdk_44_method_1_6 : decode jdk_44_method_1_code 6 = .ok (.invokestatic 7, 3) := by decide +kernel
theorem d_jdk_44_method_1_9 : decode jdk_44_method_1_code 9 = .ok (.putfield 13, 3) := by decide +kernel
theorem d_jdk_44_method_1_12 : decode jdk_44_method_1_code 12 = .ok (.aload_n 0, 1) := by decide +kernel
theorem d_jdk_44_method_1_13 : decode jdk_44_method_1_code 13 = .ok (.getstatic 19, 3) := by decide +kernel
theorem d_jdk_44_method_1_16 : decode jdk_44_method_1_code 16 = .ok (.putfield 24, 3) := by decide +kernel
theorem d_jdk_44_method_1_19 : decode jdk_44_method_1_code 19 = .ok (.return_, 1) := by decide +kernel
theorem d_jdk_40_method_47_0 : decode jdk_40_method_47_code 0 = .ok (.aload_n 0, 1) := by decide +kernel
theorem d_jdk_40_method_47_1 : decode jdk_40_method_47_code 1 = .ok (.arraylength, 1) := by decide +kernel
theorem d_jdk_40_method_47_2 : decode jdk_40_method_47_code 2 = .ok (.tableswitch 57 0 2 #[26, 32, 43], 26) := by decide +kernel
theorem d_jdk_40_method_47_34 : decode jdk_40_method_47_code 34 = .ok (.new 96, 3) := by decide +kernel
theorem d_jdk_40_method_47_37 : decode jdk_40_method_47_code 37 = .ok (.dup, 1) := by decide +kernel
theorem d_jdk_40_method_47_38 : decode jdk_40_method_47_code 38 = .ok (.aload_n 0, 1) := by decide +kernel
theorem d_jdk_40_method_47_39 : decode jdk_40_method_47_code 39 = .ok (.iconst 0, 1) := by decide +kernel
theorem d_jdk_40_method_47_40 : decode jdk_40_method_47_code 40 = .ok (.aaload, 1) := by decide +kernel
theorem d_jdk_40_method_47_41 : decode jdk_40_method_47_code 41 = .ok (.invokespecial 98, 3) := by decide +kernel
theorem d_jdk_40_method_47_44 : decode jdk_40_method_47_code 44 = .ok (.areturn, 1) := by decide +kernel
theorem d_jdk_56_method_3_31 : decode jdk_56_method_3_code 31 = .ok (.aload_n 0, 1) := by decide +kernel
theorem d_jdk_56_method_3_32 : decode jdk_56_method_3_code 32 = .ok (.invokeinterface 20 1, 5) := by decide +kernel
theorem d_jdk_56_method_3_37 : decode jdk_56_method_3_code 37 = .ok (.ifCond .eq 7, 3) := by decide +kernel
theorem d_jdk_56_method_3_40 : decode jdk_56_method_3_code 40 = .ok (.invokestatic 26, 3) := by decide +kernel
theorem d_jdk_56_method_3_43 : decode jdk_56_method_3_code 43 = .ok (.areturn, 1) := by decide +kernel
theorem d_jdk_56_method_3_44 : decode jdk_56_method_3_code 44 = .ok (.aload_n 0, 1) := by decide +kernel
theorem d_jdk_56_method_3_45 : decode jdk_56_method_3_code 45 = .ok (.invokeinterface 30 1, 5) := by decide +kernel
theorem d_jdk_56_method_3_50 : decode jdk_56_method_3_code 50 = .ok (.invokestatic 34, 3) := by decide +kernel
theorem d_jdk_56_method_3_53 : decode jdk_56_method_3_code 53 = .ok (.areturn, 1) := by decide +kernel
theorem d_prog_4_method_2_0 : decode prog_4_method_2_code 0 = .ok (.aload_n 0, 1) := by decide +kernel
theorem d_prog_4_method_2_1 : decode prog_4_method_2_code 1 = .ok (.invokespecial 7, 3) := by decide +kernel
theorem d_prog_4_method_2_4 : decode prog_4_method_2_code 4 = .ok (.aload_n 0, 1) := by decide +kernel
theorem d_prog_4_method_2_5 : decode prog_4_method_2_code 5 = .ok (.aload_n 1, 1) := by decide +kernel
theorem d_prog_4_method_2_6 : decode prog_4_method_2_code 6 = .ok (.putfield 12, 3) := by decide +kernel
theorem d_prog_4_method_2_9 : decode prog_4_method_2_code 9 = .ok (.aload_n 0, 1) := by decide +kernel
theorem d_prog_4_method_2_10 : decode prog_4_method_2_code 10 = .ok (.aload_n 2, 1) := by decide +kernel
theorem d_prog_4_method_2_11 : decode prog_4_method_2_code 11 = .ok (.putfield 16, 3) := by decide +kernel
theorem d_prog_4_method_2_14 : decode prog_4_method_2_code 14 = .ok (.aload_n 0, 1) := by decide +kernel
theorem d_prog_4_method_2_15 : decode prog_4_method_2_code 15 = .ok (.aload_n 3, 1) := by decide +kernel
theorem d_prog_4_method_2_16 : decode prog_4_method_2_code 16 = .ok (.putfield 19, 3) := by decide +kernel
theorem d_prog_4_method_2_19 : decode prog_4_method_2_code 19 = .ok (.aload_n 0, 1) := by decide +kernel
theorem d_prog_4_method_2_20 : decode prog_4_method_2_code 20 = .ok (.aload 4, 2) := by decide +kernel
theorem d_prog_4_method_2_22 : decode prog_4_method_2_code 22 = .ok (.invokestatic 22, 3) := by decide +kernel
theorem d_prog_4_method_2_25 : decode prog_4_method_2_code 25 = .ok (.putfield 28, 3) := by decide +kernel
theorem d_prog_4_method_2_28 : decode prog_4_method_2_code 28 = .ok (.aload_n 0, 1) := by decide +kernel
theorem d_prog_4_method_2_29 : decode prog_4_method_2_code 29 = .ok (.aload 5, 2) := by decide +kernel
theorem d_prog_4_method_2_31 : decode prog_4_method_2_code 31 = .ok (.invokestatic 22, 3) := by decide +kernel
theorem d_prog_4_method_2_34 : decode prog_4_method_2_code 34 = .ok (.putfield 32, 3) := by decide +kernel
theorem d_prog_4_method_2_37 : decode prog_4_method_2_code 37 = .ok (.aload_n 0, 1) := by decide +kernel
theorem d_prog_4_method_2_38 : decode prog_4_method_2_code 38 = .ok (.aload 6, 2) := by decide +kernel
theorem d_prog_4_method_2_40 : decode prog_4_method_2_code 40 = .ok (.invokestatic 22, 3) := by decide +kernel
theorem d_prog_4_method_2_43 : decode prog_4_method_2_code 43 = .ok (.putfield 35, 3) := by decide +kernel
theorem d_prog_4_method_2_46 : decode prog_4_method_2_code 46 = .ok (.aload_n 0, 1) := by decide +kernel
theorem d_prog_4_method_2_47 : decode prog_4_method_2_code 47 = .ok (.aload 7, 2) := by decide +kernel
theorem d_prog_4_method_2_49 : decode prog_4_method_2_code 49 = .ok (.invokestatic 38, 3) := by decide +kernel
theorem d_prog_4_method_2_52 : decode prog_4_method_2_code 52 = .ok (.putfield 43, 3) := by decide +kernel
theorem d_prog_4_method_2_55 : decode prog_4_method_2_code 55 = .ok (.return_, 1) := by decide +kernel
theorem d_prog_4_method_3_0 : decode prog_4_method_3_code 0 = .ok (.new 2, 3) := by decide +kernel
theorem d_prog_4_method_3_3 : decode prog_4_method_3_code 3 = .ok (.dup, 1) := by decide +kernel
theorem d_prog_4_method_3_4 : decode prog_4_method_3_code 4 = .ok (.aload_n 0, 1) := by decide +kernel
theorem d_prog_4_method_3_5 : decode prog_4_method_3_code 5 = .ok (.aload_n 1, 1) := by decide +kernel
theorem d_prog_4_method_3_6 : decode prog_4_method_3_code 6 = .ok (.aload_n 2, 1) := by decide +kernel
theorem d_prog_4_method_3_7 : decode prog_4_method_3_code 7 = .ok (.invokestatic 47, 3) := by decide +kernel
theorem d_prog_4_method_3_10 : decode prog_4_method_3_code 10 = .ok (.invokestatic 47, 3) := by decide +kernel
theorem d_prog_4_method_3_13 : decode prog_4_method_3_code 13 = .ok (.invokestatic 47, 3) := by decide +kernel
theorem d_prog_4_method_3_16 : decode prog_4_method_3_code 16 = .ok (.invokestatic 51, 3) := by decide +kernel
theorem d_prog_4_method_3_19 : decode prog_4_method_3_code 19 = .ok (.invokespecial 1, 3) := by decide +kernel
theorem d_prog_4_method_3_22 : decode prog_4_method_3_code 22 = .ok (.areturn, 1) := by decide +kernel
theorem d_prog_4_method_1_0 : decode prog_4_method_1_code 0 = .ok (.aload_n 0, 1) := by decide +kernel
theorem d_prog_4_method_1_1 : decode prog_4_method_1_code 1 = .ok (.aload_n 1, 1) := by decide +kernel
theorem d_prog_4_method_1_2 : decode prog_4_method_1_code 2 = .ok (.aconst_null, 1) := by decide +kernel
theorem d_prog_4_method_1_3 : decode prog_4_method_1_code 3 = .ok (.aconst_null, 1) := by decide +kernel
theorem d_prog_4_method_1_4 : decode prog_4_method_1_code 4 = .ok (.aload_n 2, 1) := by decide +kernel
theorem d_prog_4_method_1_5 : decode prog_4_method_1_code 5 = .ok (.aload_n 3, 1) := by decide +kernel
theorem d_prog_4_method_1_6 : decode prog_4_method_1_code 6 = .ok (.aload 4, 2) := by decide +kernel
theorem d_prog_4_method_1_8 : decode prog_4_method_1_code 8 = .ok (.aload 5, 2) := by decide +kernel
theorem d_prog_4_method_1_10 : decode prog_4_method_1_code 10 = .ok (.invokespecial 1, 3) := by decide +kernel
theorem d_prog_4_method_1_13 : decode prog_4_method_1_code 13 = .ok (.return_, 1) := by decide +kernel
theorem d_prog_4_method_5_0 : decode prog_4_method_5_code 0 = .ok (.aload_n 0, 1) := by decide +kernel
theorem d_prog_4_method_5_1 : decode prog_4_method_5_code 1 = .ok (.getfield 16, 3) := by decide +kernel
theorem d_prog_4_method_5_4 : decode prog_4_method_5_code 4 = .ok (.ifnull 7, 3) := by decide +kernel
theorem d_prog_4_method_5_11 : decode prog_4_method_5_code 11 = .ok (.iconst 0, 1) := by decide +kernel
theorem d_prog_4_method_5_12 : decode prog_4_method_5_code 12 = .ok (.ireturn, 1) := by decide +kernel
theorem d_prog_4_method_5_7 : decode prog_4_method_5_code 7 = .ok (.iconst 1, 1) := by decide +kernel
theorem d_prog_4_method_5_8 : decode prog_4_method_5_code 8 = .ok (.goto 4, 3) := by decide +kernel
theorem d_prog_4_method_6_0 : decode prog_4_method_6_code 0 = .ok (.aload_n 0, 1) := by decide +kernel
theorem d_prog_4_method_6_1 : decode prog_4_method_6_code 1 = .ok (.getfield 16, 3) := by decide +kernel
theorem d_prog_4_method_6_4 : decode prog_4_method_6_code 4 = .ok (.areturn, 1) := by decide +kernel
theorem d_prog_4_method_9_0 : decode prog_4_method_9_code 0 = .ok (.aload_n 0, 1) := by decide +kernel
theorem d_prog_4_method_9_1 : decode prog_4_method_9_code 1 = .ok (.getfield 32, 3) := by decide +kernel
theorem d_prog_4_method_9_4 : decode prog_4_method_9_code 4 = .ok (.areturn, 1) := by decide +kernel
theorem d_prog_4_method_10_0 : decode prog_4_method_10_code 0 = .ok (.aload_n 0, 1) := by decide +kernel
theorem d_prog_4_method_10_1 : decode prog_4_method_10_code 1 = .ok (.getfield 35, 3) := by decide +kernel
theorem d_prog_4_method_10_4 : decode prog_4_method_10_code 4 = .ok (.areturn, 1) := by decide +kernel
theorem d_prog_4_method_11_0 : decode prog_4_method_11_code 0 = .ok (.aload_n 0, 1) := by decide +kernel
theorem d_prog_4_method_11_1 : decode prog_4_method_11_code 1 = .ok (.getfield 43, 3) := by decide +kernel
theorem d_prog_4_method_11_4 : decode prog_4_method_11_code 4 = .ok (.areturn, 1) := by decide +kernel
theorem pn0 : plainName "java/lang/StringLatin1" = true := by first | (simp [plainName, overriddenIn]; done) | decide +kernel
theorem pn1 : plainName "java/lang/String" = true := by first | (simp [plainName, overriddenIn]; done) | decide +kernel
theorem pn2 : plainName "java/util/List" = true := by first | (simp [plainName, overriddenIn]; done) | decide +kernel
theorem pn3 : plainName "java/util/Set" = true := by first | (simp [plainName, overriddenIn]; done) | decide +kernel
theorem pn4 : plainName "java/util/ImmutableCollections" = true := by first | (simp [plainName, overriddenIn]; done) | decide +kernel
theorem pn5 : plainName "java/util/AbstractCollection" = true := by first | (simp [plainName, overriddenIn]; done) | decide +kernel
theorem pn6 : plainName "java/util/AbstractList" = true := by first | (simp [plainName, overriddenIn]; done) | decide +kernel
theorem pn7 : plainName "java/util/ArrayList" = true := by first | (simp [plainName, overriddenIn]; done) | decide +kernel
theorem pn8 : plainName "java/util/Arrays" = true := by first | (simp [plainName, overriddenIn]; done) | decide +kernel
theorem pn9 : plainName "java/util/ImmutableCollections$AbstractImmutableCollection" = true := by first | (simp [plainName, overriddenIn]; done) | decide +kernel
theorem pn10 : plainName "java/util/ImmutableCollections$AbstractImmutableList" = true := by first | (simp [plainName, overriddenIn]; done) | decide +kernel
theorem pn11 : plainName "java/util/Objects" = true := by first | (simp [plainName, overriddenIn]; done) | decide +kernel
theorem pn12 : plainName "java/util/ImmutableCollections$List12" = true := by first | (simp [plainName, overriddenIn]; done) | decide +kernel
theorem pn13 : plainName "com/example/fetcher/client/Received" = true := by first | (simp [plainName, overriddenIn]; done) | decide +kernel
theorem pn14 : plainName "com/example/fetcher/client/ReceivedIsErrorPinLaw" = true := by first | (simp [plainName, overriddenIn]; done) | decide +kernel
theorem pd0 : parseMethodDescriptor "(C)Z" = some ⟨[.char], some .boolean⟩ := by decide +kernel
theorem pd1 : parseMethodDescriptor "(C)[B" = some ⟨[.char], some (.array .byte)⟩ := by decide +kernel
theorem pd2 : parseMethodDescriptor "([BB)V" = some ⟨[(.array .byte), .byte], none⟩ := by decide +kernel
theorem pd3 : parseMethodDescriptor "(Ljava/util/Collection;)Ljava/util/List;" = some ⟨[(.object "java/util/Collection")], some (.object "java/util/List")⟩ := by decide +kernel
theorem pd4 : parseMethodDescriptor "()V" = some ⟨[], none⟩ := by decide +kernel
theorem pd5 : parseMethodDescriptor "(II)I" = some ⟨[.int, .int], some .int⟩ := by decide +kernel
theorem pd6 : parseMethodDescriptor "(I)[Ljava/lang/Object;" = some ⟨[.int], some (.array (.object "java/lang/Object"))⟩ := by decide +kernel
theorem pd7 : parseMethodDescriptor "()[Ljava/lang/Object;" = some ⟨[], some (.array (.object "java/lang/Object"))⟩ := by decide +kernel
theorem pd8 : parseMethodDescriptor "(Ljava/lang/Object;[Ljava/lang/Object;I)V" = some ⟨[(.object "java/lang/Object"), (.array (.object "java/lang/Object")), .int], none⟩ := by decide +kernel
theorem pd9 : parseMethodDescriptor "([Ljava/lang/Object;ILjava/lang/Class;)[Ljava/lang/Object;" = some ⟨[(.array (.object "java/lang/Object")), .int, (.object "java/lang/Class")], some (.array (.object "java/lang/Object"))⟩ := by decide +kernel
theorem pd10 : parseMethodDescriptor "([Ljava/lang/Object;I)[Ljava/lang/Object;" = some ⟨[(.array (.object "java/lang/Object")), .int], some (.array (.object "java/lang/Object"))⟩ := by decide +kernel
theorem pd11 : parseMethodDescriptor "(Ljava/lang/Object;)Ljava/lang/Object;" = some ⟨[(.object "java/lang/Object")], some (.object "java/lang/Object")⟩ := by decide +kernel
theorem pd12 : parseMethodDescriptor "(Ljava/lang/Object;)V" = some ⟨[(.object "java/lang/Object")], none⟩ := by decide +kernel
theorem pd13 : parseMethodDescriptor "()Z" = some ⟨[], some .boolean⟩ := by decide +kernel
theorem pd14 : parseMethodDescriptor "()Ljava/util/List;" = some ⟨[], some (.object "java/util/List")⟩ := by decide +kernel
theorem pd15 : parseMethodDescriptor "([Ljava/lang/Object;)Ljava/util/List;" = some ⟨[(.array (.object "java/lang/Object"))], some (.object "java/util/List")⟩ := by decide +kernel
theorem pd16 : parseMethodDescriptor "(Ljava/util/Collection;)Ljava/util/Set;" = some ⟨[(.object "java/util/Collection")], some (.object "java/util/Set")⟩ := by decide +kernel
theorem pd17 : parseMethodDescriptor "()Ljava/util/Set;" = some ⟨[], some (.object "java/util/Set")⟩ := by decide +kernel
theorem pd18 : parseMethodDescriptor "(Ljava/lang/String;Ljava/lang/String;Ljava/lang/String;Ljava/util/List;Ljava/util/List;Ljava/util/List;Ljava/util/Set;)V" = some ⟨[(.object "java/lang/String"), (.object "java/lang/String"), (.object "java/lang/String"), (.object "java/util/List"), (.object "java/util/List"), (.object "java/util/List"), (.object "java/util/Set")], none⟩ := by decide +kernel
theorem pd19 : parseMethodDescriptor "([C)V" = some ⟨[(.array .char)], none⟩ := by decide +kernel
theorem pd20 : parseMethodDescriptor "(C)Ljava/lang/String;" = some ⟨[.char], some (.object "java/lang/String")⟩ := by decide +kernel
theorem pd21 : parseMethodDescriptor "(Ljava/lang/String;Ljava/lang/String;Ljava/lang/String;)Lcom/example/fetcher/client/Received;" = some ⟨[(.object "java/lang/String"), (.object "java/lang/String"), (.object "java/lang/String")], some (.object "com/example/fetcher/client/Received")⟩ := by decide +kernel
theorem pd22 : parseMethodDescriptor "()Ljava/lang/String;" = some ⟨[], some (.object "java/lang/String")⟩ := by decide +kernel
theorem pd23 : parseMethodDescriptor "(Ljava/lang/String;Ljava/util/List;Ljava/util/List;Ljava/util/List;Ljava/util/Set;)V" = some ⟨[(.object "java/lang/String"), (.object "java/util/List"), (.object "java/util/List"), (.object "java/util/List"), (.object "java/util/Set")], none⟩ := by decide +kernel
theorem pd24 : parseMethodDescriptor "(Ljava/lang/Object;)Z" = some ⟨[(.object "java/lang/Object")], some .boolean⟩ := by decide +kernel
def Q_can (Z : State) (ch : Int32) (h0 : Heap) (n0 : Nat) (v : Option Value) (h : Heap) (L : List Loc) : Prop := v = some (.int (1 : Int32)) ∧ Fr n0 L ∧ h = h0
theorem ef_can (m : MethodId) (ch : Int32) : entryFrame m #[(.int ch)] 1 = (mkF m 0 #[.val (.int ch)] []) := by first | (simp [entryFrame, mkF, argsToLocals, Value.category]; done) | rfl
set_option maxRecDepth 65536 in
set_option maxHeartbeats 40000000 in
theorem rm_can (l : Launch) (Z : State) (a0 : Array Value) (hw : ∀ d ∈ tables_1, d.before a0 Z = true) (ws : List Jvm.Cond) (ch : Int32) (h0 : Heap) (n0 : Nat) (Z0 : n0 ≤ h0.size) (O0 : Old Z n0 h0) (rc : ¬ ch < (0 : Int32) ∧ ¬ (255 : Int32) < ch) :
    MetFree l (⟨"java/lang/StringLatin1", "canEncode", "(C)Z"⟩ : MethodName) (head1 (Jvm.Cond.code (⟨"java/lang/StringLatin1", "canEncode", "(C)Z"⟩ : MethodName) jdk_43_method_3_code 1 (some .boolean) :: ws) ({ frames := 0, cells := 0, slots := 0, locals := 0 } : Room)) (fun a_ U_ => a_ = #[(.int ch)] ∧ Z.Warmed39 U_.vm ∧ U_.heap = h0) (fun _ _ _ _ _ => True) (fun _ U_ o_ U'_ => ∃ v_ L_, o_ = .returned v_ ∧ Q_can Z ch h0 n0 v_ U'_.heap L_ ∧ FrameEnd U_ o_ U'_ L_ ({ frames := 0, cells := 0, slots := 0, locals := 0 } : Room).cells ({ frames := 0, cells := 0, slots := 0, locals := 0 } : Room).slots) := by
  refine MetFree.of_bodySF (plainFor_of_name pn0) hisR ?_
  intro p e s m args below meth c s₁ Bd hml0 hP hK
  obtain ⟨rfl, hZ, hh⟩ := hP
  have hx := Bd.exec
  have hby := Bd.bytes
  have hml : c.maxLocals = 1 := hml0
  have hown : s.vm.findClass "java/lang/StringLatin1" = some m.cls := findClass_of_methodNamed Bd.named
  have hnm := (name_of_methodNamed Bd.named Bd.method).1
  have X0 : Stand p l e ({ frames := 0, cells := 0, slots := 0, locals := 0 } : Room) s m #[(.int ch)] below meth c s₁ [] 0 0 := Stand.of_body Bd
  have e0 : s₁.heap = h0 := by rw [← hh, Bd.state]; rfl
  have N0 := Fr.nil n0
  have oz : Z.heap.size = n0 := O0.1
  have S0 : ∀ t_, Steps p.tables e below (s₁.setTop (mkF m 0 #[.val (.int ch)] [])) t_ → Steps p.tables e below (s₁.setTop (entryFrame m #[(.int ch)] 1)) t_ := fun t_ k_ => castTop (ef_can m ch) k_
  have S1 : ∀ t_, Steps p.tables e below (s₁.setTop (mkF m 12 #[.val (.int ch)] [(.int (1 : Int32))])) t_ → Steps p.tables e below (s₁.setTop (entryFrame m #[(.int ch)] 1)) t_ := by
    intro t_ k_
    refine S0 t_ ?_
    show Steps p.tables e below (s₁.setTop (mkF m 0 #[.val (.int ch)] [])) _
    refine XS.iloadN X0.here hx rfl (hb hby d_jdk_43_method_3_0) rfl ?_
    show Steps p.tables e below (s₁.setTop (mkF m 1 #[.val (.int ch)] [(.int ch)])) _
    refine XT.sipushV X0.here hx rfl (255 : Int32) (hb hby d_jdk_43_method_3_1) (by decide) ?_
    show Steps p.tables e below (s₁.setTop (mkF m 4 #[.val (.int ch)] [(.int (255 : Int32)), (.int ch)])) _
    refine XS.icmpNo X0.here hx rfl (hb hby d_jdk_43_method_3_4) rfl (flt (rc.2 : ¬ (255 : Int32) < ch)).2.2.1 ?_
    show Steps p.tables e below (s₁.setTop (mkF m 7 #[.val (.int ch)] [])) _
    refine XT.iconstV X0.here hx rfl (1 : Int32) (hb hby d_jdk_43_method_3_7) (by decide) ?_
    show Steps p.tables e below (s₁.setTop (mkF m 8 #[.val (.int ch)] [(.int (1 : Int32))])) _
    refine XS.goto X0.here hx rfl (pc0 := 8) (pc' := 12) rfl (hb hby d_jdk_43_method_3_8) (by decide) (by decide) ?_
    exact k_
  obtain ⟨fs, hr, hrun, hended, hW, hsame⟩ := X0.leave (v := (some (.int (1 : Int32)))) (fun h => by rw [Bd.returns] at h; cases h)
  refine ⟨_, _, S1 _ ((retN X0 hx (t := .boolean) Bd.returns (by simp) (hb hby d_jdk_43_method_3_12) hr)), hrun, hended, _, _, rfl, ?_, ⟨_, rfl⟩, hW, hsame.mono (by decide) (by decide)⟩
  show Q_can Z ch h0 n0 _ s₁.heap _
  rw [e0]
  exact ⟨rfl, N0, rfl⟩
def Q_tob (Z : State) (ch : Int32) (h0 : Heap) (n0 : Nat) (v : Option Value) (h : Heap) (L : List Loc) : Prop := ∃ (t : Nat), ∃ (kb : ClassId), v = some (.ref t) ∧ Fr n0 L ∧ Keep h0 h [] ∧ (Arv Z h t kb .byte (1 : Int32) [(.int (ch.toInt8.toInt32))] (.int (0 : Int32))) ∧ (h0.size ≤ t)
theorem ef_tob (m : MethodId) (ch : Int32) : entryFrame m #[(.int ch)] 1 = (mkF m 0 #[.val (.int ch)] []) := by first | (simp [entryFrame, mkF, argsToLocals, Value.category]; done) | rfl
set_option maxRecDepth 65536 in
set_option maxHeartbeats 40000000 in
theorem rm_tob (l : Launch) (Z : State) (a0 : Array Value) (hw : ∀ d ∈ tables_1, d.before a0 Z = true) (ws : List Jvm.Cond) (ch : Int32) (h0 : Heap) (n0 : Nat) (Z0 : n0 ≤ h0.size) (O0 : Old Z n0 h0)  :
    MetFree l (⟨"java/lang/StringLatin1", "toBytes", "(C)[B"⟩ : MethodName) (head1 (Jvm.Cond.code (⟨"java/lang/StringLatin1", "toBytes", "(C)[B"⟩ : MethodName) jdk_43_method_46_code 1 (some (.array .byte)) :: ws) ({ frames := 0, cells := 1, slots := 1, locals := 0 } : Room)) (fun a_ U_ => a_ = #[(.int ch)] ∧ Z.Warmed39 U_.vm ∧ U_.heap = h0) (fun _ _ _ _ _ => True) (fun _ U_ o_ U'_ => ∃ v_ L_, o_ = .returned v_ ∧ Q_tob Z ch h0 n0 v_ U'_.heap L_ ∧ FrameEnd U_ o_ U'_ L_ ({ frames := 0, cells := 1, slots := 1, locals := 0 } : Room).cells ({ frames := 0, cells := 1, slots := 1, locals := 0 } : Room).slots) := by
  refine MetFree.of_bodySF (plainFor_of_name pn0) hisR ?_
  intro p e s m args below meth c s₁ Bd hml0 hP hK
  obtain ⟨rfl, hZ, hh⟩ := hP
  have hx := Bd.exec
  have hby := Bd.bytes
  have hml : c.maxLocals = 1 := hml0
  have hown : s.vm.findClass "java/lang/StringLatin1" = some m.cls := findClass_of_methodNamed Bd.named
  have hnm := (name_of_methodNamed Bd.named Bd.method).1
  have X0 : Stand p l e ({ frames := 0, cells := 1, slots := 1, locals := 0 } : Room) s m #[(.int ch)] below meth c s₁ [] 0 0 := Stand.of_body Bd
  have e0 : s₁.heap = h0 := by rw [← hh, Bd.state]; rfl
  have N0 := Fr.nil n0
  have oz : Z.heap.size = n0 := O0.1
  have S0 : ∀ t_, Steps p.tables e below (s₁.setTop (mkF m 0 #[.val (.int ch)] [])) t_ → Steps p.tables e below (s₁.setTop (entryFrame m #[(.int ch)] 1)) t_ := fun t_ k_ => castTop (ef_tob m ch) k_
  have K0 := Keep.refl h0 []
  obtain ⟨T1, h1, k1, X1, e1, E1, A1, st1⟩ := newP X0 hx hZ (aty := .byte) (tw19 hw) e0 (g := (mkF m 1 #[.val (.int ch)] [(.int (1 : Int32))])) rfl (hb hby d_jdk_43_method_46_1) rfl (by decide) (cap := 1) (by decide) (by decide) (by decide) (by decide)
  obtain ⟨b1, g1⟩ : ∃ z, z = h0.size := ⟨_, rfl⟩
  rw [← g1] at A1 st1
  have lb1 : (b1 : Nat) < (h1.size : Nat) := A1.lt
  have v1 : Arv Z h1 b1 k1 .byte (1 : Int32) [(.int (0 : Int32))] (.int (0 : Int32)) := (Arv.new A1 (by decide)).pad (pad_rep [] (.int (0 : Int32)) 1)
  have z1 := E1.1
  have K1 := K0.ext E1
  have O1 := O0.ext E1
  obtain ⟨cl2, Ar2, q2, Sz2, Nn2, H2, G2⟩ := id v1
  have hin2 : ¬ ((0 : Int32) < 0 ∨ cl2.slots.size ≤ ((0 : Int32)).toNatClampNeg) := inb_of Sz2 ⟨by decide, by decide⟩
  obtain ⟨T3, h3, X3, e3, W3, st3⟩ := stB X1 hx hZ e1 Ar2 (j := (0 : Int32)) hin2 (g := (mkF m 7 #[.val (.int ch)] [(.int (ch.toInt8.toInt32)), (.int (0 : Int32)), (.ref b1), (.ref b1)])) rfl rfl (hb hby d_jdk_43_method_46_7)
  rw [(own_nb ch)] at W3
  have z3 := W3.size
  have K3 := K1.wr W3 (Or.inr (by omega))
  have N3 := Fr.snoc X3 N0 (by omega)
  have O3 := O1.wr W3 (by omega)
  have v3 : Arv Z h3 b1 k1 .byte (1 : Int32) [(.int (ch.toInt8.toInt32))] (.int (0 : Int32)) := Arv.set Ar2 q2 Sz2 Nn2 H2 G2 (by rw [← (own_nb ch)]; exact (fits_nar_byte _)) W3 0 rfl (Nat.le_of_ble_eq_true rfl)
  have S4 : ∀ t_, Steps p.tables e below (T3.setTop (mkF m 8 #[.val (.int ch)] [(.ref b1)])) t_ → Steps p.tables e below (s₁.setTop (entryFrame m #[(.int ch)] 1)) t_ := by
    intro t_ k_
    refine S0 t_ ?_
    show Steps p.tables e below (s₁.setTop (mkF m 0 #[.val (.int ch)] [])) _
    refine XT.iconstV X0.here hx rfl (1 : Int32) (hb hby d_jdk_43_method_46_0) (by decide) ?_
    show Steps p.tables e below (s₁.setTop (mkF m 1 #[.val (.int ch)] [(.int (1 : Int32))])) _
    refine st1 _ ?_
    show Steps p.tables e below (T1.setTop (mkF m 3 #[.val (.int ch)] [(.ref b1)])) _
    refine XS.dup X1.here hx rfl (hb hby d_jdk_43_method_46_3) rfl rfl ?_
    show Steps p.tables e below (T1.setTop (mkF m 4 #[.val (.int ch)] [(.ref b1), (.ref b1)])) _
    refine XT.iconstV X1.here hx rfl (0 : Int32) (hb hby d_jdk_43_method_46_4) (by decide) ?_
    show Steps p.tables e below (T1.setTop (mkF m 5 #[.val (.int ch)] [(.int (0 : Int32)), (.ref b1), (.ref b1)])) _
    refine XS.iloadN X1.here hx rfl (hb hby d_jdk_43_method_46_5) rfl ?_
    show Steps p.tables e below (T1.setTop (mkF m 6 #[.val (.int ch)] [(.int ch), (.int (0 : Int32)), (.ref b1), (.ref b1)])) _
    refine own_op_i2b X1.here hx rfl (hb hby d_jdk_43_method_46_6) rfl (z := (ch.toInt8.toInt32)) rfl ?_
    show Steps p.tables e below (T1.setTop (mkF m 7 #[.val (.int ch)] [(.int (ch.toInt8.toInt32)), (.int (0 : Int32)), (.ref b1), (.ref b1)])) _
    refine st3 _ ?_
    exact k_
  obtain ⟨fs, hr, hrun, hended, hW, hsame⟩ := X3.leave (v := (some (.ref b1))) (fun h => by rw [Bd.returns] at h; cases h)
  refine ⟨_, _, S4 _ ((retOut X3 hx Bd.returns rfl (Or.inr (Or.inr (Or.inr (Or.inr ⟨rfl, rfl, rfl⟩)))) (hb hby d_jdk_43_method_46_8) hr)), hrun, hended, _, _, rfl, ?_, ⟨_, rfl⟩, hW, hsame.mono (by decide) (by decide)⟩
  show Q_tob Z ch h0 n0 _ T3.heap _
  rw [e3]
  exact ⟨b1, k1, rfl, N3, K3, v3, (by omega)⟩
def Q_inb (Z : State) (a1 : Nat) (a2 : Nat) (u1 : Value) (u2 : Value) (h0 : Heap) (n0 : Nat) (v : Option Value) (h : Heap) (L : List Loc) : Prop := v = none ∧ Fr n0 L ∧ Keep h0 h [a1] ∧ (Exa Z h a1 "java/lang/String") ∧ (Fld Z h a1 "java/lang/String" "value" "[B" (.ref a2)) ∧ (Fld Z h a1 "java/lang/String" "coder" "B" (.int (0 : Int32)))
theorem ef_inb (m : MethodId) (a1 : Nat) (a2 : Nat) (u1 : Value) (u2 : Value) : entryFrame m #[(.ref a1), (.ref a2), (.int (0 : Int32))] 3 = (mkF m 0 #[.val (.ref a1), .val (.ref a2), .val (.int (0 : Int32))] []) := by first | (simp [entryFrame, mkF, argsToLocals, Value.category]; done) | rfl
set_option maxRecDepth 65536 in
set_option maxHeartbeats 40000000 in
theorem rm_inb (l : Launch) (Z : State) (a0 : Array Value) (hw : ∀ d ∈ tables_1, d.before a0 Z = true) (ws : List Jvm.Cond) (a1 : Nat) (a2 : Nat) (u1 : Value) (u2 : Value) (h0 : Heap) (n0 : Nat) (Z0 : n0 ≤ h0.size) (O0 : Old Z n0 h0) (E1 : Exa Z h0 a1 "java/lang/String") (F1 : Fld Z h0 a1 "java/lang/String" "value" "[B" u1) (F2 : Fld Z h0 a1 "java/lang/String" "coder" "B" u2) (ga : n0 ≤ a1) :
    MetFree l (⟨"java/lang/String", "<init>", "([BB)V"⟩ : MethodName) (head1 (Jvm.Cond.code (⟨"java/lang/String", "<init>", "([BB)V"⟩ : MethodName) jdk_42_method_151_code 3 none :: ws) ({ frames := 1, cells := 0, slots := 0, locals := 12 } : Room)) (fun a_ U_ => a_ = #[(.ref a1), (.ref a2), (.int (0 : Int32))] ∧ Z.Warmed39 U_.vm ∧ U_.heap = h0) (fun _ _ _ _ _ => True) (fun _ U_ o_ U'_ => ∃ v_ L_, o_ = .returned v_ ∧ Q_inb Z a1 a2 u1 u2 h0 n0 v_ U'_.heap L_ ∧ FrameEnd U_ o_ U'_ L_ ({ frames := 1, cells := 0, slots := 0, locals := 12 } : Room).cells ({ frames := 1, cells := 0, slots := 0, locals := 12 } : Room).slots) := by
  refine MetFree.of_bodySF (plainFor_of_name pn1) hisR ?_
  intro p e s m args below meth c s₁ Bd hml0 hP hK
  obtain ⟨rfl, hZ, hh⟩ := hP
  have hx := Bd.exec
  have hby := Bd.bytes
  have hml : c.maxLocals = 3 := hml0
  have hown : s.vm.findClass "java/lang/String" = some m.cls := findClass_of_methodNamed Bd.named
  have hnm := (name_of_methodNamed Bd.named Bd.method).1
  have X0 : Stand p l e ({ frames := 1, cells := 0, slots := 0, locals := 12 } : Room) s m #[(.ref a1), (.ref a2), (.int (0 : Int32))] below meth c s₁ [] 0 0 := Stand.of_body Bd
  have e0 : s₁.heap = h0 := by rw [← hh, Bd.state]; rfl
  have N0 := Fr.nil n0
  have oz : Z.heap.size = n0 := O0.1
  have S0 : ∀ t_, Steps p.tables e below (s₁.setTop (mkF m 0 #[.val (.ref a1), .val (.ref a2), .val (.int (0 : Int32))] [])) t_ → Steps p.tables e below (s₁.setTop (entryFrame m #[(.ref a1), (.ref a2), (.int (0 : Int32))] 3)) t_ := fun t_ k_ => castTop (ef_inb m a1 a2 u1 u2) k_
  have K0 := Keep.refl h0 [a1]
  have lt_a1 : (a1 : Nat) < (h0.size : Nat) := E1.lt
  obtain ⟨T1, X1, e1, st1⟩ := initO X0 hx hZ hown (tw11 hw) (tw12 hw) (tw13 hw) e0 (g := (mkF m 1 #[.val (.ref a1), .val (.ref a2), .val (.int (0 : Int32))] [(.ref a1)])) rfl (by rw [hml]; rfl) rfl (hb hby d_jdk_42_method_151_1) (by decide) (W := 0) (by show 2 * 0 + _ ≤ _; exact Nat.le_of_eq rfl) (by decide)
  obtain ⟨T2, h2, X2, e2, W2, st2⟩ := putF X1 hx hZ hown (host := "") (Or.inl (tw28 hw)) Via.refl e1 F1 E1 (Or.inr ⟨(tw29 hw), rfl, hnm⟩) (tw1 hw) (ty := (.array .byte)) (by decide) rfl rfl (g := (mkF m 6 #[.val (.ref a1), .val (.ref a2), .val (.int (0 : Int32))] [(.ref a2), (.ref a1)])) rfl rfl (hb hby d_jdk_42_method_151_6)
  have z2 := W2.size
  have K2 := K0.wr W2 (Or.inl (by simp))
  have N2 := Fr.snoc X2 N0 (by omega)
  have O2 := O0.wr W2 (by omega)
  have fw2 := F1.same W2
  have f3 := (E1.wr W2)
  have f4 := (F2.other W2 (Or.inr (slot_ne (Or.inr (tw27 hw)) (Or.inr (tw29 hw)) (by decide) (t := .byte) (t' := (.array .byte)) (by decide) (by decide))))
  obtain ⟨T5, h5, X5, e5, W5, st5⟩ := putFN X2 hx hZ hown (tw26 hw) Via.refl e2 f4 f3 (Or.inr ⟨(tw27 hw), rfl, hnm⟩) (tw1 hw) (ty := .byte) (v' := (.int (0 : Int32))) (by decide) rfl rfl (g := (mkF m 11 #[.val (.ref a1), .val (.ref a2), .val (.int (0 : Int32))] [(.int (0 : Int32)), (.ref a1)])) rfl rfl (hb hby d_jdk_42_method_151_11)
  have z5 := W5.size
  have K5 := K2.wr W5 (Or.inl (by simp))
  have N5 := Fr.snoc X5 N2 (by omega)
  have O5 := O2.wr W5 (by omega)
  have fw5 := f4.same W5
  have S6 : ∀ t_, Steps p.tables e below (T5.setTop (mkF m 14 #[.val (.ref a1), .val (.ref a2), .val (.int (0 : Int32))] [])) t_ → Steps p.tables e below (s₁.setTop (entryFrame m #[(.ref a1), (.ref a2), (.int (0 : Int32))] 3)) t_ := by
    intro t_ k_
    refine S0 t_ ?_
    show Steps p.tables e below (s₁.setTop (mkF m 0 #[.val (.ref a1), .val (.ref a2), .val (.int (0 : Int32))] [])) _
    refine XS.aloadN X0.here hx rfl (hb hby d_jdk_42_method_151_0) rfl rfl ?_
    show Steps p.tables e below (s₁.setTop (mkF m 1 #[.val (.ref a1), .val (.ref a2), .val (.int (0 : Int32))] [(.ref a1)])) _
    refine st1 _ ?_
    show Steps p.tables e below (T1.setTop (mkF m 4 #[.val (.ref a1), .val (.ref a2), .val (.int (0 : Int32))] [])) _
    refine XS.aloadN X1.here hx rfl (hb hby d_jdk_42_method_151_4) rfl rfl ?_
    show Steps p.tables e below (T1.setTop (mkF m 5 #[.val (.ref a1), .val (.ref a2), .val (.int (0 : Int32))] [(.ref a1)])) _
    refine XS.aloadN X1.here hx rfl (hb hby d_jdk_42_method_151_5) rfl rfl ?_
    show Steps p.tables e below (T1.setTop (mkF m 6 #[.val (.ref a1), .val (.ref a2), .val (.int (0 : Int32))] [(.ref a2), (.ref a1)])) _
    refine st2 _ ?_
    show Steps p.tables e below (T2.setTop (mkF m 9 #[.val (.ref a1), .val (.ref a2), .val (.int (0 : Int32))] [])) _
    refine XS.aloadN X2.here hx rfl (hb hby d_jdk_42_method_151_9) rfl rfl ?_
    show Steps p.tables e below (T2.setTop (mkF m 10 #[.val (.ref a1), .val (.ref a2), .val (.int (0 : Int32))] [(.ref a1)])) _
    refine XS.iloadN X2.here hx rfl (hb hby d_jdk_42_method_151_10) rfl ?_
    show Steps p.tables e below (T2.setTop (mkF m 11 #[.val (.ref a1), .val (.ref a2), .val (.int (0 : Int32))] [(.int (0 : Int32)), (.ref a1)])) _
    refine st5 _ ?_
    exact k_
  obtain ⟨fs, hr, hrun, hended, hW, hsame⟩ := X5.leave (v := none) (fun _ => rfl)
  refine ⟨_, _, S6 _ (X5.returnOut hx Bd.returns (hb hby d_jdk_42_method_151_14) hr), hrun, hended, _, _, rfl, ?_, ⟨_, rfl⟩, hW, hsame.mono (by decide) (by decide)⟩
  show Q_inb Z a1 a2 u1 u2 h0 n0 _ T5.heap _
  rw [e5]
  have f7 := (f3.wr W5)
  have f8 := (fw2.other W5 (Or.inr (slot_ne (Or.inr (tw29 hw)) (Or.inr (tw27 hw)) (by decide) (t := (.array .byte)) (t' := .byte) (by decide) (by decide))))
  exact ⟨rfl, N5, K5, f7, f8, fw5⟩
def Q_val (Z : State) (ch : Int32) (cz : Int32) (h0 : Heap) (n0 : Nat) (v : Option Value) (h : Heap) (L : List Loc) : Prop := ∃ (b : Nat), ∃ (t : Nat), ∃ (kb : ClassId), v = some (.ref b) ∧ Fr n0 L ∧ Keep h0 h [] ∧ (Exa Z h b "java/lang/String") ∧ (Fld Z h b "java/lang/String" "value" "[B" (.ref t)) ∧ (Fld Z h b "java/lang/String" "coder" "B" (.int (0 : Int32))) ∧ (Arv Z h t kb .byte (1 : Int32) ((([ch] : List Int32).map (fun c => c.toInt8.toInt32)).map Value.int) (.int (0 : Int32))) ∧ (h0.size ≤ b ∧ h0.size ≤ t)
theorem ef_val (m : MethodId) (ch : Int32) (cz : Int32) : entryFrame m #[(.int ch)] 1 = (mkF m 0 #[.val (.int ch)] []) := by first | (simp [entryFrame, mkF, argsToLocals, Value.category]; done) | rfl
set_option maxRecDepth 65536 in
set_option maxHeartbeats 40000000 in
theorem rm_val (l : Launch) (Z : State) (a0 : Array Value) (hw : ∀ d ∈ tables_1, d.before a0 Z = true) (ws : List Jvm.Cond) (ch : Int32) (cz : Int32) (h0 : Heap) (n0 : Nat) (Z0 : n0 ≤ h0.size) (O0 : Old Z n0 h0) (rc : ¬ ch < (0 : Int32) ∧ ¬ (255 : Int32) < ch) (Scz : Sta Z Z.heap "java/lang/String" "COMPACT_STRINGS" "Z" (.int cz)) (hcz : ¬ cz = (0 : Int32)) :
    MetFree l (⟨"java/lang/String", "valueOf", "(C)Ljava/lang/String;"⟩ : MethodName) (head1 (Jvm.Cond.code (⟨"java/lang/String", "valueOf", "(C)Ljava/lang/String;"⟩ : MethodName) jdk_42_method_139_code 1 (some (.object "java/lang/String")) :: ws) ({ frames := 2, cells := 2, slots := 5, locals := 27 } : Room)) (fun a_ U_ => a_ = #[(.int ch)] ∧ Z.Warmed39 U_.vm ∧ U_.heap = h0) (fun _ _ _ _ _ => True) (fun _ U_ o_ U'_ => ∃ v_ L_, o_ = .returned v_ ∧ Q_val Z ch cz h0 n0 v_ U'_.heap L_ ∧ FrameEnd U_ o_ U'_ L_ ({ frames := 2, cells := 2, slots := 5, locals := 27 } : Room).cells ({ frames := 2, cells := 2, slots := 5, locals := 27 } : Room).slots) := by
  refine MetFree.of_bodySF (plainFor_of_name pn1) hisR ?_
  intro p e s m args below meth c s₁ Bd hml0 hP hK
  obtain ⟨rfl, hZ, hh⟩ := hP
  have hx := Bd.exec
  have hby := Bd.bytes
  have hml : c.maxLocals = 1 := hml0
  have hown : s.vm.findClass "java/lang/String" = some m.cls := findClass_of_methodNamed Bd.named
  have hnm := (name_of_methodNamed Bd.named Bd.method).1
  have X0 : Stand p l e ({ frames := 2, cells := 2, slots := 5, locals := 27 } : Room) s m #[(.int ch)] below meth c s₁ [] 0 0 := Stand.of_body Bd
  have e0 : s₁.heap = h0 := by rw [← hh, Bd.state]; rfl
  have N0 := Fr.nil n0
  have oz : Z.heap.size = n0 := O0.1
  have S0 : ∀ t_, Steps p.tables e below (s₁.setTop (mkF m 0 #[.val (.int ch)] [])) t_ → Steps p.tables e below (s₁.setTop (entryFrame m #[(.int ch)] 1)) t_ := fun t_ k_ => castTop (ef_val m ch cz) k_
  have K0 := Keep.refl h0 []
  obtain ⟨T1, X1, e1, st1⟩ := getS2 X0 hx hZ hown (host := "") (Or.inl (tw14 hw)) Via.refl e0 (Scz.ext O0.2) (g := (mkF m 0 #[.val (.int ch)] [])) rfl (hb hby d_jdk_42_method_139_0)
  obtain ⟨_, _, ⟨T2, L2, k2, n2⟩, -, X2, ⟨Lc2, hQ2, l2, y2, z2⟩, st2⟩ := Jvm.LawKit.callS X1 hx (y := (⟨"java/lang/StringLatin1", "canEncode", "(C)Z"⟩ : MethodName)) hown (mvT hZ (tw33 hw)) (mvT hZ (tw34 hw)) (mvT hZ (tw35 hw)) (mvT hZ (tw36 hw)) (by decide) (backOf (W := 0) (rm_can l Z a0 hw [] ch h0 n0 (by omega) O0 (by first | assumption | omega | decide)) hZ (tw36 hw) (tw35 hw) (by decide) (by decide)) (g := (mkF m 7 #[.val (.int ch)] [(.int ch)])) rfl (by rw [hml]; rfl) (argsL := [(.int ch)]) (rest := []) (lenOf pd0 rfl) rfl (by show 2 * 0 + _ ≤ _; exact Nat.le_of_eq rfl) (hb hby d_jdk_42_method_139_7) (fun _ _ => ⟨rfl, e1, (by decide : 0 + 0 ≤ _), (by decide : 0 + 0 ≤ _)⟩)
  dsimp only [Pt.U, Pt.locs, Pt.cells, Pt.slots] at X2 l2 y2 z2 st2 hQ2
  subst l2 y2 z2
  obtain ⟨rfl, N2q, Kq2⟩ := hQ2
  have N2 := Fr.app N0 N2q
  obtain ⟨T3, h3, X3, e3, E3, A3, D3, -, st3⟩ := newO X2 hx hZ hown (tw37 hw) (tw1 hw) (tw2 hw) Kq2 (g := (mkF m 13 #[.val (.int ch)] [])) rfl (hb hby d_jdk_42_method_139_13) (by decide) (by decide)
  obtain ⟨b3, g3⟩ : ∃ z, z = h0.size := ⟨_, rfl⟩
  rw [← g3] at A3 D3 st3
  have lb3 : (b3 : Nat) < (h3.size : Nat) := A3.lt
  have z3 := E3.1
  have K3 := K0.ext E3
  have O3 := O0.ext E3
  have f4 : Fld Z h3 b3 "java/lang/String" "coder" "B" (.int (0 : Int32)) := D3 (Or.inr (tw27 hw)) (ty := .byte) (by decide)
  have f5 : Fld Z h3 b3 "java/lang/String" "value" "[B" .null := D3 (Or.inr (tw29 hw)) (ty := (.array .byte)) (by decide)
  obtain ⟨_, _, ⟨T6, L6, k6, n6⟩, -, X6, ⟨Lc6, hQ6, l6, y6, z6⟩, st6⟩ := Jvm.LawKit.callS X3 hx (y := (⟨"java/lang/StringLatin1", "toBytes", "(C)[B"⟩ : MethodName)) hown (mvT hZ (tw38 hw)) (mvT hZ (tw39 hw)) (mvT hZ (tw35 hw)) (mvT hZ (tw40 hw)) (by decide) (backOf (W := 2) (rm_tob l Z a0 hw [] ch h3 n0 (by omega) O3 ) hZ (tw40 hw) (tw35 hw) (by decide) (by decide)) (g := (mkF m 18 #[.val (.int ch)] [(.int ch), (.ref b3), (.ref b3)])) rfl (by rw [hml]; rfl) (argsL := [(.int ch)]) (rest := [(.ref b3), (.ref b3)]) (lenOf pd1 rfl) rfl (by show 2 * 0 + _ ≤ _; exact Nat.le_of_eq rfl) (hb hby d_jdk_42_method_139_18) (fun _ _ => ⟨rfl, e3, (by decide : 1 + 1 ≤ _), (by decide : 4 + 1 ≤ _)⟩)
  dsimp only [Pt.U, Pt.locs, Pt.cells, Pt.slots] at X6 l6 y6 z6 st6 hQ6
  subst l6 y6 z6
  obtain ⟨t7, kb8, rfl, N6q, Kq6, p6_0, p6_1⟩ := hQ6
  have N6 := Fr.app N2 N6q
  have z6 := Kq6.1
  have K6 := K3.trans Kq6 all0
  have O6 := O3.keep Kq6 all0
  have lq9 : (t7 : Nat) < (T6.heap.size : Nat) := p6_0.lt
  have f10 := (A3.keep Kq6)
  have f11 := (f5.keep Kq6 nin0)
  have f12 := (f4.keep Kq6 nin0)
  obtain ⟨_, _, ⟨T13, L13, k13, n13⟩, -, X13, ⟨Lc13, hQ13, l13, y13, z13⟩, st13⟩ := X6.specialBack hx (y := (⟨"java/lang/String", "<init>", "([BB)V"⟩ : MethodName)) rfl hown (mvT hZ (tw41 hw)) (mvT hZ (tw42 hw)) (mvT hZ (tw43 hw)) (by decide) (backOf (W := 1) (rm_inb l Z a0 hw [] b3 t7 .null (.int (0 : Int32)) T6.heap n0 (by omega) O6 f10 f11 f12 (by omega)) hZ (tw43 hw) (tw2 hw) (by decide) (by decide)) (g := (mkF m 22 #[.val (.int ch)] [(.int (0 : Int32)), (.ref t7), (.ref b3), (.ref b3)])) rfl (by rw [hml]; rfl) (Steps.refl _) (a := b3) (argsL := [(.ref t7), (.int (0 : Int32))]) (rest := [(.ref b3)]) (lenOf pd2 rfl) rfl (by show 2 * 0 + _ ≤ _; exact Nat.le_of_eq rfl) (hb hby d_jdk_42_method_139_22) (fun _ _ => ⟨rfl, rfl, (by decide : 2 + 0 ≤ _), (by decide : 5 + 0 ≤ _)⟩)
  dsimp only [Pt.U, Pt.locs, Pt.cells, Pt.slots] at X13 l13 y13 z13 st13 hQ13
  subst l13 y13 z13
  obtain ⟨rfl, N13q, Kq13, p13_0, p13_1, p13_2⟩ := hQ13
  have N13 := Fr.app N6 N13q
  have z13 := Kq13.1
  have K13 := K6.trans Kq13 (allS (Or.inr (by omega)) all0)
  have O13 := O6.keep Kq13 (allS (by omega) all0)
  have lq14 : (b3 : Nat) < (T13.heap.size : Nat) := p13_0.lt
  have lq15 : (b3 : Nat) < (T13.heap.size : Nat) := p13_1.lt
  have lq16 : (b3 : Nat) < (T13.heap.size : Nat) := p13_2.lt
  have S17 : ∀ t_, Steps p.tables e below (T13.setTop (mkF m 25 #[.val (.int ch)] [(.ref b3)])) t_ → Steps p.tables e below (s₁.setTop (entryFrame m #[(.int ch)] 1)) t_ := by
    intro t_ k_
    refine S0 t_ ?_
    show Steps p.tables e below (s₁.setTop (mkF m 0 #[.val (.int ch)] [])) _
    refine st1 _ ?_
    show Steps p.tables e below (T1.setTop (mkF m 3 #[.val (.int ch)] [(.int cz)])) _
    refine XS.ifNo X1.here hx rfl (hb hby d_jdk_42_method_139_3) rfl ((if0 _ _).trans (feq (hcz : ¬ cz = (0 : Int32))).1) ?_
    show Steps p.tables e below (T1.setTop (mkF m 6 #[.val (.int ch)] [])) _
    refine XS.iloadN X1.here hx rfl (hb hby d_jdk_42_method_139_6) rfl ?_
    show Steps p.tables e below (T1.setTop (mkF m 7 #[.val (.int ch)] [(.int ch)])) _
    refine st2 _ ?_
    show Steps p.tables e below (T2.setTop (mkF m 10 #[.val (.int ch)] [(.int (1 : Int32))])) _
    refine XS.ifNo X2.here hx rfl (hb hby d_jdk_42_method_139_10) rfl (by decide) ?_
    show Steps p.tables e below (T2.setTop (mkF m 13 #[.val (.int ch)] [])) _
    refine st3 _ ?_
    show Steps p.tables e below (T3.setTop (mkF m 16 #[.val (.int ch)] [(.ref b3)])) _
    refine XS.dup X3.here hx rfl (hb hby d_jdk_42_method_139_16) rfl rfl ?_
    show Steps p.tables e below (T3.setTop (mkF m 17 #[.val (.int ch)] [(.ref b3), (.ref b3)])) _
    refine XS.iloadN X3.here hx rfl (hb hby d_jdk_42_method_139_17) rfl ?_
    show Steps p.tables e below (T3.setTop (mkF m 18 #[.val (.int ch)] [(.int ch), (.ref b3), (.ref b3)])) _
    refine st6 _ ?_
    show Steps p.tables e below (T6.setTop (mkF m 21 #[.val (.int ch)] [(.ref t7), (.ref b3), (.ref b3)])) _
    refine XT.iconstV X6.here hx rfl (0 : Int32) (hb hby d_jdk_42_method_139_21) (by decide) ?_
    show Steps p.tables e below (T6.setTop (mkF m 22 #[.val (.int ch)] [(.int (0 : Int32)), (.ref t7), (.ref b3), (.ref b3)])) _
    refine st13.trans ?_
    exact k_
  obtain ⟨fs, hr, hrun, hended, hW, hsame⟩ := X13.leave (v := (some (.ref b3))) (fun h => by rw [Bd.returns] at h; cases h)
  refine ⟨_, _, S17 _ ((retOut X13 hx Bd.returns rfl (Or.inr (Or.inr (Or.inr (Or.inr ⟨rfl, rfl, rfl⟩)))) (hb hby d_jdk_42_method_139_25) hr)), hrun, hended, _, _, rfl, ?_, ⟨_, rfl⟩, hW, hsame.mono (by decide) (by decide)⟩
  show Q_val Z ch cz h0 n0 _ T13.heap _
  have f18 := (p6_0.keep Kq13 (ninS (by omega : (t7 : Nat) ≠ (b3 : Nat)) nin0))
  exact ⟨b3, t7, kb8, rfl, N13, K13, p13_0, p13_1, p13_2, f18, ⟨by omega, by omega⟩⟩
def Q_lof (Z : State) (a_EMPTY_LIST : Nat) (h0 : Heap) (n0 : Nat) (v : Option Value) (h : Heap) (L : List Loc) : Prop := v = some (.ref a_EMPTY_LIST) ∧ Fr n0 L ∧ h = h0
theorem ef_lof (m : MethodId) (a_EMPTY_LIST : Nat) : entryFrame m #[] 0 = (mkF m 0 #[] []) := by first | (simp [entryFrame, mkF, argsToLocals, Value.category]; done) | rfl
set_option maxRecDepth 65536 in
set_option maxHeartbeats 40000000 in
theorem rm_lof (l : Launch) (Z : State) (a0 : Array Value) (hw : ∀ d ∈ tables_1, d.before a0 Z = true) (ws : List Jvm.Cond) (a_EMPTY_LIST : Nat) (h0 : Heap) (n0 : Nat) (Z0 : n0 ≤ h0.size) (O0 : Old Z n0 h0) (S_EMPTY_LIST : Sta Z Z.heap "java/util/ImmutableCollections" "EMPTY_LIST" "Ljava/util/ImmutableCollections$ListN;" (.ref a_EMPTY_LIST)) :
    MetFree l (⟨"java/util/List", "of", "()Ljava/util/List;"⟩ : MethodName) (head1 (Jvm.Cond.code (⟨"java/util/List", "of", "()Ljava/util/List;"⟩ : MethodName) jdk_40_method_36_code 0 (some (.object "java/util/List")) :: ws) ({ frames := 0, cells := 0, slots := 0, locals := 0 } : Room)) (fun a_ U_ => a_ = #[] ∧ Z.Warmed39 U_.vm ∧ U_.heap = h0) (fun _ _ _ _ _ => True) (fun _ U_ o_ U'_ => ∃ v_ L_, o_ = .returned v_ ∧ Q_lof Z a_EMPTY_LIST h0 n0 v_ U'_.heap L_ ∧ FrameEnd U_ o_ U'_ L_ ({ frames := 0, cells := 0, slots := 0, locals := 0 } : Room).cells ({ frames := 0, cells := 0, slots := 0, locals := 0 } : Room).slots) := by
  refine MetFree.of_bodySF (plainFor_of_name pn2) hisR ?_
  intro p e s m args below meth c s₁ Bd hml0 hP hK
  obtain ⟨rfl, hZ, hh⟩ := hP
  have hx := Bd.exec
  have hby := Bd.bytes
  have hml : c.maxLocals = 0 := hml0
  have hown : s.vm.findClass "java/util/List" = some m.cls := findClass_of_methodNamed Bd.named
  have hnm := (name_of_methodNamed Bd.named Bd.method).1
  have X0 : Stand p l e ({ frames := 0, cells := 0, slots := 0, locals := 0 } : Room) s m #[] below meth c s₁ [] 0 0 := Stand.of_body Bd
  have e0 : s₁.heap = h0 := by rw [← hh, Bd.state]; rfl
  have N0 := Fr.nil n0
  have oz : Z.heap.size = n0 := O0.1
  have S0 : ∀ t_, Steps p.tables e below (s₁.setTop (mkF m 0 #[] [])) t_ → Steps p.tables e below (s₁.setTop (entryFrame m #[] 0)) t_ := fun t_ k_ => castTop (ef_lof m a_EMPTY_LIST) k_
  obtain ⟨T1, X1, e1, st1⟩ := getS2 X0 hx hZ hown (host := "") (Or.inl (tw54 hw)) Via.refl e0 (S_EMPTY_LIST.ext O0.2) (g := (mkF m 0 #[] [])) rfl (hb hby d_jdk_40_method_36_0)
  have S2 : ∀ t_, Steps p.tables e below (T1.setTop (mkF m 3 #[] [(.ref a_EMPTY_LIST)])) t_ → Steps p.tables e below (s₁.setTop (entryFrame m #[] 0)) t_ := by
    intro t_ k_
    refine S0 t_ ?_
    show Steps p.tables e below (s₁.setTop (mkF m 0 #[] [])) _
    refine st1 _ ?_
    exact k_
  obtain ⟨fs, hr, hrun, hended, hW, hsame⟩ := X1.leave (v := (some (.ref a_EMPTY_LIST))) (fun h => by rw [Bd.returns] at h; cases h)
  refine ⟨_, _, S2 _ ((retOut X1 hx Bd.returns rfl (Or.inr (Or.inr (Or.inr (Or.inr ⟨rfl, rfl, rfl⟩)))) (hb hby d_jdk_40_method_36_3) hr)), hrun, hended, _, _, rfl, ?_, ⟨_, rfl⟩, hW, hsame.mono (by decide) (by decide)⟩
  show Q_lof Z a_EMPTY_LIST h0 n0 _ T1.heap _
  rw [e1]
  exact ⟨rfl, N0, rfl⟩
def Q_sof (Z : State) (a_EMPTY_SET : Nat) (h0 : Heap) (n0 : Nat) (v : Option Value) (h : Heap) (L : List Loc) : Prop := v = some (.ref a_EMPTY_SET) ∧ Fr n0 L ∧ h = h0
theorem ef_sof (m : MethodId) (a_EMPTY_SET : Nat) : entryFrame m #[] 0 = (mkF m 0 #[] []) := by first | (simp [entryFrame, mkF, argsToLocals, Value.category]; done) | rfl
set_option maxRecDepth 65536 in
set_option maxHeartbeats 40000000 in
theorem rm_sof (l : Launch) (Z : State) (a0 : Array Value) (hw : ∀ d ∈ tables_1, d.before a0 Z = true) (ws : List Jvm.Cond) (a_EMPTY_SET : Nat) (h0 : Heap) (n0 : Nat) (Z0 : n0 ≤ h0.size) (O0 : Old Z n0 h0) (S_EMPTY_SET : Sta Z Z.heap "java/util/ImmutableCollections" "EMPTY_SET" "Ljava/util/ImmutableCollections$SetN;" (.ref a_EMPTY_SET)) :
    MetFree l (⟨"java/util/Set", "of", "()Ljava/util/Set;"⟩ : MethodName) (head1 (Jvm.Cond.code (⟨"java/util/Set", "of", "()Ljava/util/Set;"⟩ : MethodName) jdk_96_method_17_code 0 (some (.object "java/util/Set")) :: ws) ({ frames := 0, cells := 0, slots := 0, locals := 0 } : Room)) (fun a_ U_ => a_ = #[] ∧ Z.Warmed39 U_.vm ∧ U_.heap = h0) (fun _ _ _ _ _ => True) (fun _ U_ o_ U'_ => ∃ v_ L_, o_ = .returned v_ ∧ Q_sof Z a_EMPTY_SET h0 n0 v_ U'_.heap L_ ∧ FrameEnd U_ o_ U'_ L_ ({ frames := 0, cells := 0, slots := 0, locals := 0 } : Room).cells ({ frames := 0, cells := 0, slots := 0, locals := 0 } : Room).slots) := by
  refine MetFree.of_bodySF (plainFor_of_name pn3) hisR ?_
  intro p e s m args below meth c s₁ Bd hml0 hP hK
  obtain ⟨rfl, hZ, hh⟩ := hP
  have hx := Bd.exec
  have hby := Bd.bytes
  have hml : c.maxLocals = 0 := hml0
  have hown : s.vm.findClass "java/util/Set" = some m.cls := findClass_of_methodNamed Bd.named
  have hnm := (name_of_methodNamed Bd.named Bd.method).1
  have X0 : Stand p l e ({ frames := 0, cells := 0, slots := 0, locals := 0 } : Room) s m #[] below meth c s₁ [] 0 0 := Stand.of_body Bd
  have e0 : s₁.heap = h0 := by rw [← hh, Bd.state]; rfl
  have N0 := Fr.nil n0
  have oz : Z.heap.size = n0 := O0.1
  have S0 : ∀ t_, Steps p.tables e below (s₁.setTop (mkF m 0 #[] [])) t_ → Steps p.tables e below (s₁.setTop (entryFrame m #[] 0)) t_ := fun t_ k_ => castTop (ef_sof m a_EMPTY_SET) k_
  obtain ⟨T1, X1, e1, st1⟩ := getS2 X0 hx hZ hown (host := "") (Or.inl (tw60 hw)) Via.refl e0 (S_EMPTY_SET.ext O0.2) (g := (mkF m 0 #[] [])) rfl (hb hby d_jdk_96_method_17_0)
  have S2 : ∀ t_, Steps p.tables e below (T1.setTop (mkF m 3 #[] [(.ref a_EMPTY_SET)])) t_ → Steps p.tables e below (s₁.setTop (entryFrame m #[] 0)) t_ := by
    intro t_ k_
    refine S0 t_ ?_
    show Steps p.tables e below (s₁.setTop (mkF m 0 #[] [])) _
    refine st1 _ ?_
    exact k_
  obtain ⟨fs, hr, hrun, hended, hW, hsame⟩ := X1.leave (v := (some (.ref a_EMPTY_SET))) (fun h => by rw [Bd.returns] at h; cases h)
  refine ⟨_, _, S2 _ ((retOut X1 hx Bd.returns rfl (Or.inr (Or.inr (Or.inr (Or.inr ⟨rfl, rfl, rfl⟩)))) (hb hby d_jdk_96_method_17_3) hr)), hrun, hended, _, _, rfl, ?_, ⟨_, rfl⟩, hW, hsame.mono (by decide) (by decide)⟩
  show Q_sof Z a_EMPTY_SET h0 n0 _ T1.heap _
  rw [e1]
  exact ⟨rfl, N0, rfl⟩
def Q_lcE (Z : State) (a_EMPTY_LIST : Nat) (h0 : Heap) (n0 : Nat) (v : Option Value) (h : Heap) (L : List Loc) : Prop := v = some (.ref a_EMPTY_LIST) ∧ Fr n0 L ∧ h = h0
theorem ef_lcE (m : MethodId) (a_EMPTY_LIST : Nat) : entryFrame m #[(.ref a_EMPTY_LIST)] 2 = (mkF m 0 #[.val (.ref a_EMPTY_LIST), .unset] []) := by first | (simp [entryFrame, mkF, argsToLocals, Value.category]; done) | rfl
set_option maxRecDepth 65536 in
set_option maxHeartbeats 40000000 in
theorem rm_lcE (l : Launch) (Z : State) (a0 : Array Value) (hw : ∀ d ∈ tables_1, d.before a0 Z = true) (ws : List Jvm.Cond) (a_EMPTY_LIST : Nat) (h0 : Heap) (n0 : Nat) (Z0 : n0 ≤ h0.size) (O0 : Old Z n0 h0) (E_a_EMPTY_LIST : Exa Z Z.heap a_EMPTY_LIST "java/util/ImmutableCollections$ListN") (F_a_EMPTY_LIST_allowNulls : Fld Z Z.heap a_EMPTY_LIST "java/util/ImmutableCollections$ListN" "allowNulls" "Z" (.int (0 : Int32))) :
    MetFree l (⟨"java/util/ImmutableCollections", "listCopy", "(Ljava/util/Collection;)Ljava/util/List;"⟩ : MethodName) (head1 (Jvm.Cond.code (⟨"java/util/ImmutableCollections", "listCopy", "(Ljava/util/Collection;)Ljava/util/List;"⟩ : MethodName) jdk_56_method_3_code 2 (some (.object "java/util/List")) :: ws) ({ frames := 0, cells := 0, slots := 0, locals := 0 } : Room)) (fun a_ U_ => a_ = #[(.ref a_EMPTY_LIST)] ∧ Z.Warmed39 U_.vm ∧ U_.heap = h0) (fun _ _ _ _ _ => True) (fun _ U_ o_ U'_ => ∃ v_ L_, o_ = .returned v_ ∧ Q_lcE Z a_EMPTY_LIST h0 n0 v_ U'_.heap L_ ∧ FrameEnd U_ o_ U'_ L_ ({ frames := 0, cells := 0, slots := 0, locals := 0 } : Room).cells ({ frames := 0, cells := 0, slots := 0, locals := 0 } : Room).slots) := by
  refine MetFree.of_bodySF (plainFor_of_name pn4) hisR ?_
  intro p e s m args below meth c s₁ Bd hml0 hP hK
  obtain ⟨rfl, hZ, hh⟩ := hP
  have hx := Bd.exec
  have hby := Bd.bytes
  have hml : c.maxLocals = 2 := hml0
  have hown : s.vm.findClass "java/util/ImmutableCollections" = some m.cls := findClass_of_methodNamed Bd.named
  have hnm := (name_of_methodNamed Bd.named Bd.method).1
  have X0 : Stand p l e ({ frames := 0, cells := 0, slots := 0, locals := 0 } : Room) s m #[(.ref a_EMPTY_LIST)] below meth c s₁ [] 0 0 := Stand.of_body Bd
  have e0 : s₁.heap = h0 := by rw [← hh, Bd.state]; rfl
  have N0 := Fr.nil n0
  have oz : Z.heap.size = n0 := O0.1
  have S0 : ∀ t_, Steps p.tables e below (s₁.setTop (mkF m 0 #[.val (.ref a_EMPTY_LIST), .unset] [])) t_ → Steps p.tables e below (s₁.setTop (entryFrame m #[(.ref a_EMPTY_LIST)] 2)) t_ := fun t_ k_ => castTop (ef_lcE m a_EMPTY_LIST) k_
  have lt_a_EMPTY_LIST : (a_EMPTY_LIST : Nat) < (Z.heap.size : Nat) := E_a_EMPTY_LIST.lt
  obtain ⟨T1, X1, e1, st1⟩ := instNo X0 hx hZ hown (tw77 hw) e0 (E_a_EMPTY_LIST.ext O0.2) (own_NSno (tw78 hw) (tw234 hw) (NS.step (tw78 hw) (NS.step (tw79 hw) (NS.step (tw80 hw) (NS.step (tw81 hw) (own_NSroot (tw82 hw) (tw234 hw) (by decide)) (by decide)) (by decide)) (by decide)) (by decide)) (by decide)) (g := (mkF m 1 #[.val (.ref a_EMPTY_LIST), .unset] [(.ref a_EMPTY_LIST)])) rfl rfl (hb hby d_jdk_56_method_3_1)
  obtain ⟨T2, X2, e2, st2⟩ := instY X1 hx hZ hown (tw83 hw) e1 (Ins.self (E_a_EMPTY_LIST.ext O0.2)) (g := (mkF m 8 #[.val (.ref a_EMPTY_LIST), .unset] [(.ref a_EMPTY_LIST)])) rfl rfl (hb hby d_jdk_56_method_3_8)
  obtain ⟨T3, X3, e3, st3⟩ := castY X2 hx hZ hown (tw83 hw) e2 (Ins.self (E_a_EMPTY_LIST.ext O0.2)) (g := (mkF m 15 #[.val (.ref a_EMPTY_LIST), .unset] [(.ref a_EMPTY_LIST)])) rfl rfl (hb hby d_jdk_56_method_3_15)
  obtain ⟨T4, X4, e4, st4⟩ := getF X3 hx hZ hown (Or.inr (tw85 hw)) Via.refl e3 (F_a_EMPTY_LIST_allowNulls.ext O0.2) (g := (mkF m 20 #[.val (.ref a_EMPTY_LIST), .val (.ref a_EMPTY_LIST)] [(.ref a_EMPTY_LIST)])) rfl rfl (hb hby d_jdk_56_method_3_20)
  obtain ⟨T5, X5, e5, st5⟩ := castY X4 hx hZ hown (tw87 hw) e4 (Ins.of_exa (E_a_EMPTY_LIST.ext O0.2) (tw88 hw)) (g := (mkF m 27 #[.val (.ref a_EMPTY_LIST), .val (.ref a_EMPTY_LIST)] [(.ref a_EMPTY_LIST)])) rfl rfl (hb hby d_jdk_56_method_3_27)
  have S6 : ∀ t_, Steps p.tables e below (T5.setTop (mkF m 30 #[.val (.ref a_EMPTY_LIST), .val (.ref a_EMPTY_LIST)] [(.ref a_EMPTY_LIST)])) t_ → Steps p.tables e below (s₁.setTop (entryFrame m #[(.ref a_EMPTY_LIST)] 2)) t_ := by
    intro t_ k_
    refine S0 t_ ?_
    show Steps p.tables e below (s₁.setTop (mkF m 0 #[.val (.ref a_EMPTY_LIST), .unset] [])) _
    refine XS.aloadN X0.here hx rfl (hb hby d_jdk_56_method_3_0) rfl rfl ?_
    show Steps p.tables e below (s₁.setTop (mkF m 1 #[.val (.ref a_EMPTY_LIST), .unset] [(.ref a_EMPTY_LIST)])) _
    refine st1 _ ?_
    show Steps p.tables e below (T1.setTop (mkF m 4 #[.val (.ref a_EMPTY_LIST), .unset] [(.int (0 : Int32))])) _
    refine XS.ifNo X1.here hx rfl (hb hby d_jdk_56_method_3_4) rfl (by decide) ?_
    show Steps p.tables e below (T1.setTop (mkF m 7 #[.val (.ref a_EMPTY_LIST), .unset] [])) _
    refine XS.aloadN X1.here hx rfl (hb hby d_jdk_56_method_3_7) rfl rfl ?_
    show Steps p.tables e below (T1.setTop (mkF m 8 #[.val (.ref a_EMPTY_LIST), .unset] [(.ref a_EMPTY_LIST)])) _
    refine st2 _ ?_
    show Steps p.tables e below (T2.setTop (mkF m 11 #[.val (.ref a_EMPTY_LIST), .unset] [(.int (1 : Int32))])) _
    refine XS.ifNo X2.here hx rfl (hb hby d_jdk_56_method_3_11) rfl (by decide) ?_
    show Steps p.tables e below (T2.setTop (mkF m 14 #[.val (.ref a_EMPTY_LIST), .unset] [])) _
    refine XS.aloadN X2.here hx rfl (hb hby d_jdk_56_method_3_14) rfl rfl ?_
    show Steps p.tables e below (T2.setTop (mkF m 15 #[.val (.ref a_EMPTY_LIST), .unset] [(.ref a_EMPTY_LIST)])) _
    refine st3 _ ?_
    show Steps p.tables e below (T3.setTop (mkF m 18 #[.val (.ref a_EMPTY_LIST), .unset] [(.ref a_EMPTY_LIST)])) _
    refine XS.astoreN X3.here hx rfl (hb hby d_jdk_56_method_3_18) rfl rfl (l' := #[.val (.ref a_EMPTY_LIST), .val (.ref a_EMPTY_LIST)]) rfl ?_
    show Steps p.tables e below (T3.setTop (mkF m 19 #[.val (.ref a_EMPTY_LIST), .val (.ref a_EMPTY_LIST)] [])) _
    refine XS.aloadN X3.here hx rfl (hb hby d_jdk_56_method_3_19) rfl rfl ?_
    show Steps p.tables e below (T3.setTop (mkF m 20 #[.val (.ref a_EMPTY_LIST), .val (.ref a_EMPTY_LIST)] [(.ref a_EMPTY_LIST)])) _
    refine st4 _ ?_
    show Steps p.tables e below (T4.setTop (mkF m 23 #[.val (.ref a_EMPTY_LIST), .val (.ref a_EMPTY_LIST)] [(.int (0 : Int32))])) _
    refine XS.ifNo X4.here hx rfl (hb hby d_jdk_56_method_3_23) rfl (by decide) ?_
    show Steps p.tables e below (T4.setTop (mkF m 26 #[.val (.ref a_EMPTY_LIST), .val (.ref a_EMPTY_LIST)] [])) _
    refine XS.aloadN X4.here hx rfl (hb hby d_jdk_56_method_3_26) rfl rfl ?_
    show Steps p.tables e below (T4.setTop (mkF m 27 #[.val (.ref a_EMPTY_LIST), .val (.ref a_EMPTY_LIST)] [(.ref a_EMPTY_LIST)])) _
    refine st5 _ ?_
    exact k_
  obtain ⟨fs, hr, hrun, hended, hW, hsame⟩ := X5.leave (v := (some (.ref a_EMPTY_LIST))) (fun h => by rw [Bd.returns] at h; cases h)
  refine ⟨_, _, S6 _ ((retOut X5 hx Bd.returns rfl (Or.inr (Or.inr (Or.inr (Or.inr ⟨rfl, rfl, rfl⟩)))) (hb hby d_jdk_56_method_3_30) hr)), hrun, hended, _, _, rfl, ?_, ⟨_, rfl⟩, hW, hsame.mono (by decide) (by decide)⟩
  show Q_lcE Z a_EMPTY_LIST h0 n0 _ T5.heap _
  rw [e5]
  exact ⟨rfl, N0, rfl⟩
def Q_coE (Z : State) (a_EMPTY_LIST : Nat) (h0 : Heap) (n0 : Nat) (v : Option Value) (h : Heap) (L : List Loc) : Prop := v = some (.ref a_EMPTY_LIST) ∧ Fr n0 L ∧ h = h0
theorem ef_coE (m : MethodId) (a_EMPTY_LIST : Nat) : entryFrame m #[(.ref a_EMPTY_LIST)] 1 = (mkF m 0 #[.val (.ref a_EMPTY_LIST)] []) := by first | (simp [entryFrame, mkF, argsToLocals, Value.category]; done) | rfl
set_option maxRecDepth 65536 in
set_option maxHeartbeats 40000000 in
theorem rm_coE (l : Launch) (Z : State) (a0 : Array Value) (hw : ∀ d ∈ tables_1, d.before a0 Z = true) (ws : List Jvm.Cond) (a_EMPTY_LIST : Nat) (h0 : Heap) (n0 : Nat) (Z0 : n0 ≤ h0.size) (O0 : Old Z n0 h0) (E_a_EMPTY_LIST : Exa Z Z.heap a_EMPTY_LIST "java/util/ImmutableCollections$ListN") (F_a_EMPTY_LIST_allowNulls : Fld Z Z.heap a_EMPTY_LIST "java/util/ImmutableCollections$ListN" "allowNulls" "Z" (.int (0 : Int32))) :
    MetFree l (⟨"java/util/List", "copyOf", "(Ljava/util/Collection;)Ljava/util/List;"⟩ : MethodName) (head1 (Jvm.Cond.code (⟨"java/util/List", "copyOf", "(Ljava/util/Collection;)Ljava/util/List;"⟩ : MethodName) jdk_40_method_48_code 1 (some (.object "java/util/List")) :: ws) ({ frames := 1, cells := 0, slots := 0, locals := 13 } : Room)) (fun a_ U_ => a_ = #[(.ref a_EMPTY_LIST)] ∧ Z.Warmed39 U_.vm ∧ U_.heap = h0) (fun _ _ _ _ _ => True) (fun _ U_ o_ U'_ => ∃ v_ L_, o_ = .returned v_ ∧ Q_coE Z a_EMPTY_LIST h0 n0 v_ U'_.heap L_ ∧ FrameEnd U_ o_ U'_ L_ ({ frames := 1, cells := 0, slots := 0, locals := 13 } : Room).cells ({ frames := 1, cells := 0, slots := 0, locals := 13 } : Room).slots) := by
  refine MetFree.of_bodySF (plainFor_of_name pn2) hisR ?_
  intro p e s m args below meth c s₁ Bd hml0 hP hK
  obtain ⟨rfl, hZ, hh⟩ := hP
  have hx := Bd.exec
  have hby := Bd.bytes
  have hml : c.maxLocals = 1 := hml0
  have hown : s.vm.findClass "java/util/List" = some m.cls := findClass_of_methodNamed Bd.named
  have hnm := (name_of_methodNamed Bd.named Bd.method).1
  have X0 : Stand p l e ({ frames := 1, cells := 0, slots := 0, locals := 13 } : Room) s m #[(.ref a_EMPTY_LIST)] below meth c s₁ [] 0 0 := Stand.of_body Bd
  have e0 : s₁.heap = h0 := by rw [← hh, Bd.state]; rfl
  have N0 := Fr.nil n0
  have oz : Z.heap.size = n0 := O0.1
  have S0 : ∀ t_, Steps p.tables e below (s₁.setTop (mkF m 0 #[.val (.ref a_EMPTY_LIST)] [])) t_ → Steps p.tables e below (s₁.setTop (entryFrame m #[(.ref a_EMPTY_LIST)] 1)) t_ := fun t_ k_ => castTop (ef_coE m a_EMPTY_LIST) k_
  have lt_a_EMPTY_LIST : (a_EMPTY_LIST : Nat) < (Z.heap.size : Nat) := E_a_EMPTY_LIST.lt
  obtain ⟨_, _, ⟨T1, L1, k1, n1⟩, -, X1, ⟨Lc1, hQ1, l1, y1, z1⟩, st1⟩ := Jvm.LawKit.callS X0 hx (y := (⟨"java/util/ImmutableCollections", "listCopy", "(Ljava/util/Collection;)Ljava/util/List;"⟩ : MethodName)) hown (mvT hZ (tw74 hw)) (mvT hZ (tw75 hw)) (mvT hZ (tw55 hw)) (mvT hZ (tw76 hw)) (by decide) (backOf (W := 0) (rm_lcE l Z a0 hw [] a_EMPTY_LIST h0 n0 (by omega) O0 E_a_EMPTY_LIST F_a_EMPTY_LIST_allowNulls) hZ (tw76 hw) (tw55 hw) (by decide) (by decide)) (g := (mkF m 1 #[.val (.ref a_EMPTY_LIST)] [(.ref a_EMPTY_LIST)])) rfl (by rw [hml]; rfl) (argsL := [(.ref a_EMPTY_LIST)]) (rest := []) (lenOf pd3 rfl) rfl (by show 2 * 0 + _ ≤ _; exact Nat.le_of_eq rfl) (hb hby d_jdk_40_method_48_1) (fun _ _ => ⟨rfl, e0, (by decide : 0 + 0 ≤ _), (by decide : 0 + 0 ≤ _)⟩)
  dsimp only [Pt.U, Pt.locs, Pt.cells, Pt.slots] at X1 l1 y1 z1 st1 hQ1
  subst l1 y1 z1
  obtain ⟨rfl, N1q, Kq1⟩ := hQ1
  have N1 := Fr.app N0 N1q
  have S2 : ∀ t_, Steps p.tables e below (T1.setTop (mkF m 4 #[.val (.ref a_EMPTY_LIST)] [(.ref a_EMPTY_LIST)])) t_ → Steps p.tables e below (s₁.setTop (entryFrame m #[(.ref a_EMPTY_LIST)] 1)) t_ := by
    intro t_ k_
    refine S0 t_ ?_
    show Steps p.tables e below (s₁.setTop (mkF m 0 #[.val (.ref a_EMPTY_LIST)] [])) _
    refine XS.aloadN X0.here hx rfl (hb hby d_jdk_40_method_48_0) rfl rfl ?_
    show Steps p.tables e below (s₁.setTop (mkF m 1 #[.val (.ref a_EMPTY_LIST)] [(.ref a_EMPTY_LIST)])) _
    refine st1 _ ?_
    exact k_
  obtain ⟨fs, hr, hrun, hended, hW, hsame⟩ := X1.leave (v := (some (.ref a_EMPTY_LIST))) (fun h => by rw [Bd.returns] at h; cases h)
  refine ⟨_, _, S2 _ ((retOut X1 hx Bd.returns rfl (Or.inr (Or.inr (Or.inr (Or.inr ⟨rfl, rfl, rfl⟩)))) (hb hby d_jdk_40_method_48_4) hr)), hrun, hended, _, _, rfl, ?_, ⟨_, rfl⟩, hW, hsame.mono (by decide) (by decide)⟩
  show Q_coE Z a_EMPTY_LIST h0 n0 _ T1.heap _
  rw [Kq1]
  exact ⟨rfl, N1, rfl⟩
def Q_scE (Z : State) (a_EMPTY_SET : Nat) (h0 : Heap) (n0 : Nat) (v : Option Value) (h : Heap) (L : List Loc) : Prop := v = some (.ref a_EMPTY_SET) ∧ Fr n0 L ∧ h = h0
theorem ef_scE (m : MethodId) (a_EMPTY_SET : Nat) : entryFrame m #[(.ref a_EMPTY_SET)] 1 = (mkF m 0 #[.val (.ref a_EMPTY_SET)] []) := by first | (simp [entryFrame, mkF, argsToLocals, Value.category]; done) | rfl
set_option maxRecDepth 65536 in
set_option maxHeartbeats 40000000 in
theorem rm_scE (l : Launch) (Z : State) (a0 : Array Value) (hw : ∀ d ∈ tables_1, d.before a0 Z = true) (ws : List Jvm.Cond) (a_EMPTY_SET : Nat) (h0 : Heap) (n0 : Nat) (Z0 : n0 ≤ h0.size) (O0 : Old Z n0 h0) (E_a_EMPTY_SET : Exa Z Z.heap a_EMPTY_SET "java/util/ImmutableCollections$SetN") :
    MetFree l (⟨"java/util/Set", "copyOf", "(Ljava/util/Collection;)Ljava/util/Set;"⟩ : MethodName) (head1 (Jvm.Cond.code (⟨"java/util/Set", "copyOf", "(Ljava/util/Collection;)Ljava/util/Set;"⟩ : MethodName) jdk_96_method_29_code 1 (some (.object "java/util/Set")) :: ws) ({ frames := 0, cells := 0, slots := 0, locals := 0 } : Room)) (fun a_ U_ => a_ = #[(.ref a_EMPTY_SET)] ∧ Z.Warmed39 U_.vm ∧ U_.heap = h0) (fun _ _ _ _ _ => True) (fun _ U_ o_ U'_ => ∃ v_ L_, o_ = .returned v_ ∧ Q_scE Z a_EMPTY_SET h0 n0 v_ U'_.heap L_ ∧ FrameEnd U_ o_ U'_ L_ ({ frames := 0, cells := 0, slots := 0, locals := 0 } : Room).cells ({ frames := 0, cells := 0, slots := 0, locals := 0 } : Room).slots) := by
  refine MetFree.of_bodySF (plainFor_of_name pn3) hisR ?_
  intro p e s m args below meth c s₁ Bd hml0 hP hK
  obtain ⟨rfl, hZ, hh⟩ := hP
  have hx := Bd.exec
  have hby := Bd.bytes
  have hml : c.maxLocals = 1 := hml0
  have hown : s.vm.findClass "java/util/Set" = some m.cls := findClass_of_methodNamed Bd.named
  have hnm := (name_of_methodNamed Bd.named Bd.method).1
  have X0 : Stand p l e ({ frames := 0, cells := 0, slots := 0, locals := 0 } : Room) s m #[(.ref a_EMPTY_SET)] below meth c s₁ [] 0 0 := Stand.of_body Bd
  have e0 : s₁.heap = h0 := by rw [← hh, Bd.state]; rfl
  have N0 := Fr.nil n0
  have oz : Z.heap.size = n0 := O0.1
  have S0 : ∀ t_, Steps p.tables e below (s₁.setTop (mkF m 0 #[.val (.ref a_EMPTY_SET)] [])) t_ → Steps p.tables e below (s₁.setTop (entryFrame m #[(.ref a_EMPTY_SET)] 1)) t_ := fun t_ k_ => castTop (ef_scE m a_EMPTY_SET) k_
  have lt_a_EMPTY_SET : (a_EMPTY_SET : Nat) < (Z.heap.size : Nat) := E_a_EMPTY_SET.lt
  obtain ⟨T1, X1, e1, st1⟩ := instY X0 hx hZ hown (tw98 hw) e0 (Ins.of_exa (E_a_EMPTY_SET.ext O0.2) (tw99 hw)) (g := (mkF m 1 #[.val (.ref a_EMPTY_SET)] [(.ref a_EMPTY_SET)])) rfl rfl (hb hby d_jdk_96_method_29_1)
  obtain ⟨T2, X2, e2, st2⟩ := castY X1 hx hZ hown (tw100 hw) e1 (Ins.of_exa (E_a_EMPTY_SET.ext O0.2) (tw101 hw)) (g := (mkF m 8 #[.val (.ref a_EMPTY_SET)] [(.ref a_EMPTY_SET)])) rfl rfl (hb hby d_jdk_96_method_29_8)
  have S3 : ∀ t_, Steps p.tables e below (T2.setTop (mkF m 11 #[.val (.ref a_EMPTY_SET)] [(.ref a_EMPTY_SET)])) t_ → Steps p.tables e below (s₁.setTop (entryFrame m #[(.ref a_EMPTY_SET)] 1)) t_ := by
    intro t_ k_
    refine S0 t_ ?_
    show Steps p.tables e below (s₁.setTop (mkF m 0 #[.val (.ref a_EMPTY_SET)] [])) _
    refine XS.aloadN X0.here hx rfl (hb hby d_jdk_96_method_29_0) rfl rfl ?_
    show Steps p.tables e below (s₁.setTop (mkF m 1 #[.val (.ref a_EMPTY_SET)] [(.ref a_EMPTY_SET)])) _
    refine st1 _ ?_
    show Steps p.tables e below (T1.setTop (mkF m 4 #[.val (.ref a_EMPTY_SET)] [(.int (1 : Int32))])) _
    refine XS.ifNo X1.here hx rfl (hb hby d_jdk_96_method_29_4) rfl (by decide) ?_
    show Steps p.tables e below (T1.setTop (mkF m 7 #[.val (.ref a_EMPTY_SET)] [])) _
    refine XS.aloadN X1.here hx rfl (hb hby d_jdk_96_method_29_7) rfl rfl ?_
    show Steps p.tables e below (T1.setTop (mkF m 8 #[.val (.ref a_EMPTY_SET)] [(.ref a_EMPTY_SET)])) _
    refine st2 _ ?_
    exact k_
  obtain ⟨fs, hr, hrun, hended, hW, hsame⟩ := X2.leave (v := (some (.ref a_EMPTY_SET))) (fun h => by rw [Bd.returns] at h; cases h)
  refine ⟨_, _, S3 _ ((retOut X2 hx Bd.returns rfl (Or.inr (Or.inr (Or.inr (Or.inr ⟨rfl, rfl, rfl⟩)))) (hb hby d_jdk_96_method_29_11) hr)), hrun, hended, _, _, rfl, ?_, ⟨_, rfl⟩, hW, hsame.mono (by decide) (by decide)⟩
  show Q_scE Z a_EMPTY_SET h0 n0 _ T2.heap _
  rw [e2]
  exact ⟨rfl, N0, rfl⟩
def Q_acin (Z : State) (a1 : Nat) (h0 : Heap) (n0 : Nat) (v : Option Value) (h : Heap) (L : List Loc) : Prop := v = none ∧ Fr n0 L ∧ h = h0
theorem ef_acin (m : MethodId) (a1 : Nat) : entryFrame m #[(.ref a1)] 1 = (mkF m 0 #[.val (.ref a1)] []) := by first | (simp [entryFrame, mkF, argsToLocals, Value.category]; done) | rfl
set_option maxRecDepth 65536 in
set_option maxHeartbeats 40000000 in
theorem rm_acin (l : Launch) (Z : State) (a0 : Array Value) (hw : ∀ d ∈ tables_1, d.before a0 Z = true) (ws : List Jvm.Cond) (a1 : Nat) (h0 : Heap) (n0 : Nat) (Z0 : n0 ≤ h0.size) (O0 : Old Z n0 h0)  :
    MetFree l (⟨"java/util/AbstractCollection", "<init>", "()V"⟩ : MethodName) (head1 (Jvm.Cond.code (⟨"java/util/AbstractCollection", "<init>", "()V"⟩ : MethodName) jdk_22_method_1_code 1 none :: ws) ({ frames := 1, cells := 0, slots := 0, locals := 12 } : Room)) (fun a_ U_ => a_ = #[(.ref a1)] ∧ Z.Warmed39 U_.vm ∧ U_.heap = h0) (fun _ _ _ _ _ => True) (fun _ U_ o_ U'_ => ∃ v_ L_, o_ = .returned v_ ∧ Q_acin Z a1 h0 n0 v_ U'_.heap L_ ∧ FrameEnd U_ o_ U'_ L_ ({ frames := 1, cells := 0, slots := 0, locals := 12 } : Room).cells ({ frames := 1, cells := 0, slots := 0, locals := 12 } : Room).slots) := by
  refine MetFree.of_bodySF (plainFor_of_name pn5) hisR ?_
  intro p e s m args below meth c s₁ Bd hml0 hP hK
  obtain ⟨rfl, hZ, hh⟩ := hP
  have hx := Bd.exec
  have hby := Bd.bytes
  have hml : c.maxLocals = 1 := hml0
  have hown : s.vm.findClass "java/util/AbstractCollection" = some m.cls := findClass_of_methodNamed Bd.named
  have hnm := (name_of_methodNamed Bd.named Bd.method).1
  have X0 : Stand p l e ({ frames := 1, cells := 0, slots := 0, locals := 12 } : Room) s m #[(.ref a1)] below meth c s₁ [] 0 0 := Stand.of_body Bd
  have e0 : s₁.heap = h0 := by rw [← hh, Bd.state]; rfl
  have N0 := Fr.nil n0
  have oz : Z.heap.size = n0 := O0.1
  have S0 : ∀ t_, Steps p.tables e below (s₁.setTop (mkF m 0 #[.val (.ref a1)] [])) t_ → Steps p.tables e below (s₁.setTop (entryFrame m #[(.ref a1)] 1)) t_ := fun t_ k_ => castTop (ef_acin m a1) k_
  obtain ⟨T1, X1, e1, st1⟩ := initO X0 hx hZ hown (tw132 hw) (tw12 hw) (tw13 hw) e0 (g := (mkF m 1 #[.val (.ref a1)] [(.ref a1)])) rfl (by rw [hml]; rfl) rfl (hb hby d_jdk_22_method_1_1) (by decide) (W := 0) (by show 2 * 0 + _ ≤ _; exact Nat.le_of_eq rfl) (by decide)
  have S2 : ∀ t_, Steps p.tables e below (T1.setTop (mkF m 4 #[.val (.ref a1)] [])) t_ → Steps p.tables e below (s₁.setTop (entryFrame m #[(.ref a1)] 1)) t_ := by
    intro t_ k_
    refine S0 t_ ?_
    show Steps p.tables e below (s₁.setTop (mkF m 0 #[.val (.ref a1)] [])) _
    refine XS.aloadN X0.here hx rfl (hb hby d_jdk_22_method_1_0) rfl rfl ?_
    show Steps p.tables e below (s₁.setTop (mkF m 1 #[.val (.ref a1)] [(.ref a1)])) _
    refine st1 _ ?_
    exact k_
  obtain ⟨fs, hr, hrun, hended, hW, hsame⟩ := X1.leave (v := none) (fun _ => rfl)
  refine ⟨_, _, S2 _ (X1.returnOut hx Bd.returns (hb hby d_jdk_22_method_1_4) hr), hrun, hended, _, _, rfl, ?_, ⟨_, rfl⟩, hW, hsame.mono (by decide) (by decide)⟩
  show Q_acin Z a1 h0 n0 _ T1.heap _
  rw [e1]
  exact ⟨rfl, N0, rfl⟩
def Q_alin0 (Z : State) (a1 : Nat) (u1 : Value) (u2 : Value) (u3 : Int32) (h0 : Heap) (n0 : Nat) (v : Option Value) (h : Heap) (L : List Loc) : Prop := v = none ∧ Fr n0 L ∧ Keep h0 h [a1] ∧ (Exa Z h a1 "java/util/ArrayList") ∧ (Fld Z h a1 "java/util/AbstractList" "modCount" "I" (.int (0 : Int32))) ∧ (Fld Z h a1 "java/util/ArrayList" "elementData" "[Ljava/lang/Object;" u2) ∧ (Fld Z h a1 "java/util/ArrayList" "size" "I" (.int u3))
theorem ef_alin0 (m : MethodId) (a1 : Nat) (u1 : Value) (u2 : Value) (u3 : Int32) : entryFrame m #[(.ref a1)] 1 = (mkF m 0 #[.val (.ref a1)] []) := by first | (simp [entryFrame, mkF, argsToLocals, Value.category]; done) | rfl
set_option maxRecDepth 65536 in
set_option maxHeartbeats 40000000 in
theorem rm_alin0 (l : Launch) (Z : State) (a0 : Array Value) (hw : ∀ d ∈ tables_1, d.before a0 Z = true) (ws : List Jvm.Cond) (a1 : Nat) (u1 : Value) (u2 : Value) (u3 : Int32) (h0 : Heap) (n0 : Nat) (Z0 : n0 ≤ h0.size) (O0 : Old Z n0 h0) (E1 : Exa Z h0 a1 "java/util/ArrayList") (F1 : Fld Z h0 a1 "java/util/AbstractList" "modCount" "I" u1) (F2 : Fld Z h0 a1 "java/util/ArrayList" "elementData" "[Ljava/lang/Object;" u2) (F3 : Fld Z h0 a1 "java/util/ArrayList" "size" "I" (.int u3)) (ga : n0 ≤ a1) :
    MetFree l (⟨"java/util/AbstractList", "<init>", "()V"⟩ : MethodName) (head1 (Jvm.Cond.code (⟨"java/util/AbstractList", "<init>", "()V"⟩ : MethodName) jdk_39_method_1_code 1 none :: ws) ({ frames := 2, cells := 0, slots := 0, locals := 24 } : Room)) (fun a_ U_ => a_ = #[(.ref a1)] ∧ Z.Warmed39 U_.vm ∧ U_.heap = h0) (fun _ _ _ _ _ => True) (fun _ U_ o_ U'_ => ∃ v_ L_, o_ = .returned v_ ∧ Q_alin0 Z a1 u1 u2 u3 h0 n0 v_ U'_.heap L_ ∧ FrameEnd U_ o_ U'_ L_ ({ frames := 2, cells := 0, slots := 0, locals := 24 } : Room).cells ({ frames := 2, cells := 0, slots := 0, locals := 24 } : Room).slots) := by
  refine MetFree.of_bodySF (plainFor_of_name pn6) hisR ?_
  intro p e s m args below meth c s₁ Bd hml0 hP hK
  obtain ⟨rfl, hZ, hh⟩ := hP
  have hx := Bd.exec
  have hby := Bd.bytes
  have hml : c.maxLocals = 1 := hml0
  have hown : s.vm.findClass "java/util/AbstractList" = some m.cls := findClass_of_methodNamed Bd.named
  have hnm := (name_of_methodNamed Bd.named Bd.method).1
  have X0 : Stand p l e ({ frames := 2, cells := 0, slots := 0, locals := 24 } : Room) s m #[(.ref a1)] below meth c s₁ [] 0 0 := Stand.of_body Bd
  have e0 : s₁.heap = h0 := by rw [← hh, Bd.state]; rfl
  have N0 := Fr.nil n0
  have oz : Z.heap.size = n0 := O0.1
  have S0 : ∀ t_, Steps p.tables e below (s₁.setTop (mkF m 0 #[.val (.ref a1)] [])) t_ → Steps p.tables e below (s₁.setTop (entryFrame m #[(.ref a1)] 1)) t_ := fun t_ k_ => castTop (ef_alin0 m a1 u1 u2 u3) k_
  have K0 := Keep.refl h0 [a1]
  have lt_a1 : (a1 : Nat) < (h0.size : Nat) := E1.lt
  obtain ⟨_, _, ⟨T1, L1, k1, n1⟩, -, X1, ⟨Lc1, hQ1, l1, y1, z1⟩, st1⟩ := X0.specialBack hx (y := (⟨"java/util/AbstractCollection", "<init>", "()V"⟩ : MethodName)) rfl hown (mvT hZ (tw126 hw)) (mvT hZ (tw127 hw)) (mvT hZ (tw131 hw)) (by decide) (backOf (W := 0) (rm_acin l Z a0 hw [] a1 h0 n0 (by omega) O0 ) hZ (tw131 hw) (tw130 hw) (by decide) (by decide)) (g := (mkF m 1 #[.val (.ref a1)] [(.ref a1)])) rfl (by rw [hml]; rfl) (Steps.refl _) (a := a1) (argsL := []) (rest := []) (lenOf pd4 rfl) rfl (by show 2 * 0 + _ ≤ _; exact Nat.le_of_eq rfl) (hb hby d_jdk_39_method_1_1) (fun _ _ => ⟨rfl, e0, (by decide : 0 + 0 ≤ _), (by decide : 0 + 0 ≤ _)⟩)
  dsimp only [Pt.U, Pt.locs, Pt.cells, Pt.slots] at X1 l1 y1 z1 st1 hQ1
  subst l1 y1 z1
  obtain ⟨rfl, N1q, Kq1⟩ := hQ1
  have N1 := Fr.app N0 N1q
  obtain ⟨T2, h2, X2, e2, W2, st2⟩ := putF X1 hx hZ hown (host := "") (Or.inl (tw133 hw)) Via.refl Kq1 F1 E1 (Or.inl (tw134 hw)) (tw115 hw) (ty := .int) (by decide) rfl rfl (g := (mkF m 6 #[.val (.ref a1)] [(.int (0 : Int32)), (.ref a1)])) rfl rfl (hb hby d_jdk_39_method_1_6)
  have z2 := W2.size
  have K2 := K0.wr W2 (Or.inl (by simp))
  have N2 := Fr.snoc X2 N1 (by omega)
  have O2 := O0.wr W2 (by omega)
  have fw2 := F1.same W2
  have S3 : ∀ t_, Steps p.tables e below (T2.setTop (mkF m 9 #[.val (.ref a1)] [])) t_ → Steps p.tables e below (s₁.setTop (entryFrame m #[(.ref a1)] 1)) t_ := by
    intro t_ k_
    refine S0 t_ ?_
    show Steps p.tables e below (s₁.setTop (mkF m 0 #[.val (.ref a1)] [])) _
    refine XS.aloadN X0.here hx rfl (hb hby d_jdk_39_method_1_0) rfl rfl ?_
    show Steps p.tables e below (s₁.setTop (mkF m 1 #[.val (.ref a1)] [(.ref a1)])) _
    refine st1.trans ?_
    show Steps p.tables e below (T1.setTop (mkF m 4 #[.val (.ref a1)] [])) _
    refine XS.aloadN X1.here hx rfl (hb hby d_jdk_39_method_1_4) rfl rfl ?_
    show Steps p.tables e below (T1.setTop (mkF m 5 #[.val (.ref a1)] [(.ref a1)])) _
    refine XT.iconstV X1.here hx rfl (0 : Int32) (hb hby d_jdk_39_method_1_5) (by decide) ?_
    show Steps p.tables e below (T1.setTop (mkF m 6 #[.val (.ref a1)] [(.int (0 : Int32)), (.ref a1)])) _
    refine st2 _ ?_
    exact k_
  obtain ⟨fs, hr, hrun, hended, hW, hsame⟩ := X2.leave (v := none) (fun _ => rfl)
  refine ⟨_, _, S3 _ (X2.returnOut hx Bd.returns (hb hby d_jdk_39_method_1_9) hr), hrun, hended, _, _, rfl, ?_, ⟨_, rfl⟩, hW, hsame.mono (by decide) (by decide)⟩
  show Q_alin0 Z a1 u1 u2 u3 h0 n0 _ T2.heap _
  rw [e2]
  have f4 := (E1.wr W2)
  have f5 := (F2.other W2 (Or.inr (slot_ne (Or.inl (tw137 hw)) (Or.inl (tw134 hw)) (by decide) (t := (.array (.object "java/lang/Object"))) (t' := .int) (by decide) (by decide))))
  have f6 := (F3.other W2 (Or.inr (slot_ne (Or.inl (tw169 hw)) (Or.inl (tw134 hw)) (by decide) (t := .int) (t' := .int) (by decide) (by decide))))
  exact ⟨rfl, N2, K2, f4, fw2, f5, f6⟩
def Q_alin (Z : State) (a1 : Nat) (u1 : Value) (u2 : Value) (u3 : Int32) (a_DEFAULTCAPACITY_EMPTY_ELEMENTDATA : Nat) (h0 : Heap) (n0 : Nat) (v : Option Value) (h : Heap) (L : List Loc) : Prop := v = none ∧ Fr n0 L ∧ Keep h0 h [a1] ∧ (Exa Z h a1 "java/util/ArrayList") ∧ (Fld Z h a1 "java/util/AbstractList" "modCount" "I" (.int (0 : Int32))) ∧ (Fld Z h a1 "java/util/ArrayList" "elementData" "[Ljava/lang/Object;" (.ref a_DEFAULTCAPACITY_EMPTY_ELEMENTDATA)) ∧ (Fld Z h a1 "java/util/ArrayList" "size" "I" (.int u3))
theorem ef_alin (m : MethodId) (a1 : Nat) (u1 : Value) (u2 : Value) (u3 : Int32) (a_DEFAULTCAPACITY_EMPTY_ELEMENTDATA : Nat) : entryFrame m #[(.ref a1)] 1 = (mkF m 0 #[.val (.ref a1)] []) := by first | (simp [entryFrame, mkF, argsToLocals, Value.category]; done) | rfl
set_option maxRecDepth 65536 in
set_option maxHeartbeats 40000000 in
theorem rm_alin (l : Launch) (Z : State) (a0 : Array Value) (hw : ∀ d ∈ tables_1, d.before a0 Z = true) (ws : List Jvm.Cond) (a1 : Nat) (u1 : Value) (u2 : Value) (u3 : Int32) (a_DEFAULTCAPACITY_EMPTY_ELEMENTDATA : Nat) (h0 : Heap) (n0 : Nat) (Z0 : n0 ≤ h0.size) (O0 : Old Z n0 h0) (E1 : Exa Z h0 a1 "java/util/ArrayList") (F1 : Fld Z h0 a1 "java/util/AbstractList" "modCount" "I" u1) (F2 : Fld Z h0 a1 "java/util/ArrayList" "elementData" "[Ljava/lang/Object;" u2) (F3 : Fld Z h0 a1 "java/util/ArrayList" "size" "I" (.int u3)) (ga : n0 ≤ a1) (S_DEFAULTCAPACITY_EMPTY_ELEMENTDATA : Sta Z Z.heap "java/util/ArrayList" "DEFAULTCAPACITY_EMPTY_ELEMENTDATA" "[Ljava/lang/Object;" (.ref a_DEFAULTCAPACITY_EMPTY_ELEMENTDATA)) :
    MetFree l (⟨"java/util/ArrayList", "<init>", "()V"⟩ : MethodName) (head1 (Jvm.Cond.code (⟨"java/util/ArrayList", "<init>", "()V"⟩ : MethodName) jdk_38_method_2_code 1 none :: ws) ({ frames := 3, cells := 0, slots := 0, locals := 36 } : Room)) (fun a_ U_ => a_ = #[(.ref a1)] ∧ Z.Warmed39 U_.vm ∧ U_.heap = h0) (fun _ _ _ _ _ => True) (fun _ U_ o_ U'_ => ∃ v_ L_, o_ = .returned v_ ∧ Q_alin Z a1 u1 u2 u3 a_DEFAULTCAPACITY_EMPTY_ELEMENTDATA h0 n0 v_ U'_.heap L_ ∧ FrameEnd U_ o_ U'_ L_ ({ frames := 3, cells := 0, slots := 0, locals := 36 } : Room).cells ({ frames := 3, cells := 0, slots := 0, locals := 36 } : Room).slots) := by
  refine MetFree.of_bodySF (plainFor_of_name pn7) hisR ?_
  intro p e s m args below meth c s₁ Bd hml0 hP hK
  obtain ⟨rfl, hZ, hh⟩ := hP
  have hx := Bd.exec
  have hby := Bd.bytes
  have hml : c.maxLocals = 1 := hml0
  have hown : s.vm.findClass "java/util/ArrayList" = some m.cls := findClass_of_methodNamed Bd.named
  have hnm := (name_of_methodNamed Bd.named Bd.method).1
  have X0 : Stand p l e ({ frames := 3, cells := 0, slots := 0, locals := 36 } : Room) s m #[(.ref a1)] below meth c s₁ [] 0 0 := Stand.of_body Bd
  have e0 : s₁.heap = h0 := by rw [← hh, Bd.state]; rfl
  have N0 := Fr.nil n0
  have oz : Z.heap.size = n0 := O0.1
  have S0 : ∀ t_, Steps p.tables e below (s₁.setTop (mkF m 0 #[.val (.ref a1)] [])) t_ → Steps p.tables e below (s₁.setTop (entryFrame m #[(.ref a1)] 1)) t_ := fun t_ k_ => castTop (ef_alin m a1 u1 u2 u3 a_DEFAULTCAPACITY_EMPTY_ELEMENTDATA) k_
  have K0 := Keep.refl h0 [a1]
  have lt_a1 : (a1 : Nat) < (h0.size : Nat) := E1.lt
  obtain ⟨_, _, ⟨T1, L1, k1, n1⟩, -, X1, ⟨Lc1, hQ1, l1, y1, z1⟩, st1⟩ := X0.specialBack hx (y := (⟨"java/util/AbstractList", "<init>", "()V"⟩ : MethodName)) rfl hown (mvT hZ (tw120 hw)) (mvT hZ (tw121 hw)) (mvT hZ (tw125 hw)) (by decide) (backOf (W := 0) (rm_alin0 l Z a0 hw [] a1 u1 u2 u3 h0 n0 (by omega) O0 E1 F1 F2 F3 (by omega)) hZ (tw125 hw) (tw124 hw) (by decide) (by decide)) (g := (mkF m 1 #[.val (.ref a1)] [(.ref a1)])) rfl (by rw [hml]; rfl) (Steps.refl _) (a := a1) (argsL := []) (rest := []) (lenOf pd4 rfl) rfl (by show 2 * 0 + _ ≤ _; exact Nat.le_of_eq rfl) (hb hby d_jdk_38_method_2_1) (fun _ _ => ⟨rfl, e0, (by decide : 0 + 0 ≤ _), (by decide : 0 + 0 ≤ _)⟩)
  dsimp only [Pt.U, Pt.locs, Pt.cells, Pt.slots] at X1 l1 y1 z1 st1 hQ1
  subst l1 y1 z1
  obtain ⟨rfl, N1q, Kq1, p1_0, p1_1, p1_2, p1_3⟩ := hQ1
  have N1 := Fr.app N0 N1q
  have z1 := Kq1.1
  have K1 := K0.trans Kq1 (allS (Or.inl (by simp)) all0)
  have O1 := O0.keep Kq1 (allS (by omega) all0)
  have lq2 : (a1 : Nat) < (T1.heap.size : Nat) := p1_0.lt
  have lq3 : (a1 : Nat) < (T1.heap.size : Nat) := p1_1.lt
  have lq4 : (a1 : Nat) < (T1.heap.size : Nat) := p1_2.lt
  have lq5 : (a1 : Nat) < (T1.heap.size : Nat) := p1_3.lt
  obtain ⟨T6, X6, e6, st6⟩ := getS2 X1 hx hZ hown (host := "") (Or.inl (tw135 hw)) Via.refl rfl (S_DEFAULTCAPACITY_EMPTY_ELEMENTDATA.ext O1.2) (g := (mkF m 5 #[.val (.ref a1)] [(.ref a1)])) rfl (hb hby d_jdk_38_method_2_5)
  obtain ⟨T7, h7, X7, e7, W7, st7⟩ := putF X6 hx hZ hown (host := "") (Or.inl (tw136 hw)) Via.refl e6 p1_2 p1_0 (Or.inl (tw137 hw)) (tw115 hw) (ty := (.array (.object "java/lang/Object"))) (by decide) rfl rfl (g := (mkF m 8 #[.val (.ref a1)] [(.ref a_DEFAULTCAPACITY_EMPTY_ELEMENTDATA), (.ref a1)])) rfl rfl (hb hby d_jdk_38_method_2_8)
  have z7 := W7.size
  have K7 := K1.wr W7 (Or.inl (by simp))
  have N7 := Fr.snoc X7 N1 (by omega)
  have O7 := O1.wr W7 (by omega)
  have fw7 := p1_2.same W7
  have S8 : ∀ t_, Steps p.tables e below (T7.setTop (mkF m 11 #[.val (.ref a1)] [])) t_ → Steps p.tables e below (s₁.setTop (entryFrame m #[(.ref a1)] 1)) t_ := by
    intro t_ k_
    refine S0 t_ ?_
    show Steps p.tables e below (s₁.setTop (mkF m 0 #[.val (.ref a1)] [])) _
    refine XS.aloadN X0.here hx rfl (hb hby d_jdk_38_method_2_0) rfl rfl ?_
    show Steps p.tables e below (s₁.setTop (mkF m 1 #[.val (.ref a1)] [(.ref a1)])) _
    refine st1.trans ?_
    show Steps p.tables e below (T1.setTop (mkF m 4 #[.val (.ref a1)] [])) _
    refine XS.aloadN X1.here hx rfl (hb hby d_jdk_38_method_2_4) rfl rfl ?_
    show Steps p.tables e below (T1.setTop (mkF m 5 #[.val (.ref a1)] [(.ref a1)])) _
    refine st6 _ ?_
    show Steps p.tables e below (T6.setTop (mkF m 8 #[.val (.ref a1)] [(.ref a_DEFAULTCAPACITY_EMPTY_ELEMENTDATA), (.ref a1)])) _
    refine st7 _ ?_
    exact k_
  obtain ⟨fs, hr, hrun, hended, hW, hsame⟩ := X7.leave (v := none) (fun _ => rfl)
  refine ⟨_, _, S8 _ (X7.returnOut hx Bd.returns (hb hby d_jdk_38_method_2_11) hr), hrun, hended, _, _, rfl, ?_, ⟨_, rfl⟩, hW, hsame.mono (by decide) (by decide)⟩
  show Q_alin Z a1 u1 u2 u3 a_DEFAULTCAPACITY_EMPTY_ELEMENTDATA h0 n0 _ T7.heap _
  rw [e7]
  have f9 := (p1_0.wr W7)
  have f10 := (p1_1.other W7 (Or.inr (slot_ne (Or.inl (tw134 hw)) (Or.inl (tw137 hw)) (by decide) (t := .int) (t' := (.array (.object "java/lang/Object"))) (by decide) (by decide))))
  have f11 := (p1_3.other W7 (Or.inr (slot_ne (Or.inl (tw169 hw)) (Or.inl (tw137 hw)) (by decide) (t := .int) (t' := (.array (.object "java/lang/Object"))) (by decide) (by decide))))
  exact ⟨rfl, N7, K7, f9, f10, fw7, f11⟩
def Q_mmax (Z : State)  (h0 : Heap) (n0 : Nat) (v : Option Value) (h : Heap) (L : List Loc) : Prop := v = some (.int (10 : Int32)) ∧ Fr n0 L ∧ h = h0
theorem ef_mmax (m : MethodId)  : entryFrame m #[(.int (10 : Int32)), (.int (1 : Int32))] 2 = (mkF m 0 #[.val (.int (10 : Int32)), .val (.int (1 : Int32))] []) := by first | (simp [entryFrame, mkF, argsToLocals, Value.category]; done) | rfl
set_option maxRecDepth 65536 in
set_option maxHeartbeats 40000000 in
theorem rm_mmax (l : Launch) (Z : State) (a0 : Array Value) (hw : ∀ d ∈ tables_1, d.before a0 Z = true) (ws : List Jvm.Cond)  (h0 : Heap) (n0 : Nat) (Z0 : n0 ≤ h0.size) (O0 : Old Z n0 h0)  :
    MetFree l (⟨"java/lang/Math", "max", "(II)I"⟩ : MethodName) (head1 (Jvm.Cond.code (⟨"java/lang/Math", "max", "(II)I"⟩ : MethodName) jdk_29_method_65_code 2 (some .int) :: ws) ({ frames := 0, cells := 0, slots := 0, locals := 0 } : Room)) (fun a_ U_ => a_ = #[(.int (10 : Int32)), (.int (1 : Int32))] ∧ Z.Warmed39 U_.vm ∧ U_.heap = h0) (fun _ _ _ _ _ => True) (fun _ U_ o_ U'_ => ∃ v_ L_, o_ = .returned v_ ∧ Q_mmax Z  h0 n0 v_ U'_.heap L_ ∧ FrameEnd U_ o_ U'_ L_ ({ frames := 0, cells := 0, slots := 0, locals := 0 } : Room).cells ({ frames := 0, cells := 0, slots := 0, locals := 0 } : Room).slots) := by
  refine MetFree.of_bodySF (Jvm.Free.JP.mathPlain rfl (by decide +kernel)) hisR ?_
  intro p e s m args below meth c s₁ Bd hml0 hP hK
  obtain ⟨rfl, hZ, hh⟩ := hP
  have hx := Bd.exec
  have hby := Bd.bytes
  have hml : c.maxLocals = 2 := hml0
  have hown : s.vm.findClass "java/lang/Math" = some m.cls := findClass_of_methodNamed Bd.named
  have hnm := (name_of_methodNamed Bd.named Bd.method).1
  have X0 : Stand p l e ({ frames := 0, cells := 0, slots := 0, locals := 0 } : Room) s m #[(.int (10 : Int32)), (.int (1 : Int32))] below meth c s₁ [] 0 0 := Stand.of_body Bd
  have e0 : s₁.heap = h0 := by rw [← hh, Bd.state]; rfl
  have N0 := Fr.nil n0
  have oz : Z.heap.size = n0 := O0.1
  have S0 : ∀ t_, Steps p.tables e below (s₁.setTop (mkF m 0 #[.val (.int (10 : Int32)), .val (.int (1 : Int32))] [])) t_ → Steps p.tables e below (s₁.setTop (entryFrame m #[(.int (10 : Int32)), (.int (1 : Int32))] 2)) t_ := fun t_ k_ => castTop (ef_mmax m ) k_
  have S1 : ∀ t_, Steps p.tables e below (s₁.setTop (mkF m 10 #[.val (.int (10 : Int32)), .val (.int (1 : Int32))] [(.int (10 : Int32))])) t_ → Steps p.tables e below (s₁.setTop (entryFrame m #[(.int (10 : Int32)), (.int (1 : Int32))] 2)) t_ := by
    intro t_ k_
    refine S0 t_ ?_
    show Steps p.tables e below (s₁.setTop (mkF m 0 #[.val (.int (10 : Int32)), .val (.int (1 : Int32))] [])) _
    refine XS.iloadN X0.here hx rfl (hb hby d_jdk_29_method_65_0) rfl ?_
    show Steps p.tables e below (s₁.setTop (mkF m 1 #[.val (.int (10 : Int32)), .val (.int (1 : Int32))] [(.int (10 : Int32))])) _
    refine XS.iloadN X0.here hx rfl (hb hby d_jdk_29_method_65_1) rfl ?_
    show Steps p.tables e below (s₁.setTop (mkF m 2 #[.val (.int (10 : Int32)), .val (.int (1 : Int32))] [(.int (1 : Int32)), (.int (10 : Int32))])) _
    refine XS.icmpNo X0.here hx rfl (hb hby d_jdk_29_method_65_2) rfl (by decide) ?_
    show Steps p.tables e below (s₁.setTop (mkF m 5 #[.val (.int (10 : Int32)), .val (.int (1 : Int32))] [])) _
    refine XS.iloadN X0.here hx rfl (hb hby d_jdk_29_method_65_5) rfl ?_
    show Steps p.tables e below (s₁.setTop (mkF m 6 #[.val (.int (10 : Int32)), .val (.int (1 : Int32))] [(.int (10 : Int32))])) _
    refine XS.goto X0.here hx rfl (pc0 := 6) (pc' := 10) rfl (hb hby d_jdk_29_method_65_6) (by decide) (by decide) ?_
    exact k_
  obtain ⟨fs, hr, hrun, hended, hW, hsame⟩ := X0.leave (v := (some (.int (10 : Int32)))) (fun h => by rw [Bd.returns] at h; cases h)
  refine ⟨_, _, S1 _ ((own_retI X0 hx Bd.returns (hb hby d_jdk_29_method_65_10) hr)), hrun, hended, _, _, rfl, ?_, ⟨_, rfl⟩, hW, hsame.mono (by decide) (by decide)⟩
  show Q_mmax Z  h0 n0 _ s₁.heap _
  rw [e0]
  exact ⟨rfl, N0, rfl⟩
def Q_growI (Z : State) (a1 : Nat) (u1 : Int32) (a_DEFAULTCAPACITY_EMPTY_ELEMENTDATA : Nat) (k_a_DEFAULTCAPACITY_EMPTY_ELEMENTDATA : ClassId) (h0 : Heap) (n0 : Nat) (v : Option Value) (h : Heap) (L : List Loc) : Prop := ∃ (b : Nat), ∃ (kb : ClassId), v = some (.ref b) ∧ Fr n0 L ∧ Keep h0 h [a1] ∧ (Exa Z h a1 "java/util/ArrayList") ∧ (Fld Z h a1 "java/util/AbstractList" "modCount" "I" (.int u1)) ∧ (Fld Z h a1 "java/util/ArrayList" "elementData" "[Ljava/lang/Object;" (.ref b)) ∧ (Fld Z h a1 "java/util/ArrayList" "size" "I" (.int (0 : Int32))) ∧ (Arv Z h b kb (.object "java/lang/Object") (10 : Int32) [.null, .null, .null, .null, .null, .null, .null, .null, .null, .null] .null) ∧ (Exa Z h b "[Ljava/lang/Object;") ∧ (h0.size ≤ b ∧ Ovr Z kb "java/lang/Object")
theorem ef_growI (m : MethodId) (a1 : Nat) (u1 : Int32) (a_DEFAULTCAPACITY_EMPTY_ELEMENTDATA : Nat) (k_a_DEFAULTCAPACITY_EMPTY_ELEMENTDATA : ClassId) : entryFrame m #[(.ref a1), (.int (1 : Int32))] 4 = (mkF m 0 #[.val (.ref a1), .val (.int (1 : Int32)), .unset, .unset] []) := by first | (simp [entryFrame, mkF, argsToLocals, Value.category]; done) | rfl
set_option maxRecDepth 65536 in
set_option maxHeartbeats 40000000 in
theorem rm_growI (l : Launch) (Z : State) (a0 : Array Value) (hw : ∀ d ∈ tables_1, d.before a0 Z = true) (ws : List Jvm.Cond) (a1 : Nat) (u1 : Int32) (a_DEFAULTCAPACITY_EMPTY_ELEMENTDATA : Nat) (k_a_DEFAULTCAPACITY_EMPTY_ELEMENTDATA : ClassId) (h0 : Heap) (n0 : Nat) (Z0 : n0 ≤ h0.size) (O0 : Old Z n0 h0) (E1 : Exa Z h0 a1 "java/util/ArrayList") (F1 : Fld Z h0 a1 "java/util/AbstractList" "modCount" "I" (.int u1)) (F2 : Fld Z h0 a1 "java/util/ArrayList" "elementData" "[Ljava/lang/Object;" (.ref a_DEFAULTCAPACITY_EMPTY_ELEMENTDATA)) (F3 : Fld Z h0 a1 "java/util/ArrayList" "size" "I" (.int (0 : Int32))) (ga : n0 ≤ a1) (S_DEFAULTCAPACITY_EMPTY_ELEMENTDATA : Sta Z Z.heap "java/util/ArrayList" "DEFAULTCAPACITY_EMPTY_ELEMENTDATA" "[Ljava/lang/Object;" (.ref a_DEFAULTCAPACITY_EMPTY_ELEMENTDATA)) (E_a_DEFAULTCAPACITY_EMPTY_ELEMENTDATA : Exa Z Z.heap a_DEFAULTCAPACITY_EMPTY_ELEMENTDATA "[Ljava/lang/Object;") (A_a_DEFAULTCAPACITY_EMPTY_ELEMENTDATA : Arv Z Z.heap a_DEFAULTCAPACITY_EMPTY_ELEMENTDATA k_a_DEFAULTCAPACITY_EMPTY_ELEMENTDATA (.object "java/lang/Object") (0 : Int32) [] .null) :
    MetFree l (⟨"java/util/ArrayList", "grow", "(I)[Ljava/lang/Object;"⟩ : MethodName) (head1 (Jvm.Cond.code (⟨"java/util/ArrayList", "grow", "(I)[Ljava/lang/Object;"⟩ : MethodName) jdk_38_method_6_code 4 (some (.array (.object "java/lang/Object"))) :: ws) ({ frames := 1, cells := 1, slots := 10, locals := 14 } : Room)) (fun a_ U_ => a_ = #[(.ref a1), (.int (1 : Int32))] ∧ Z.Warmed39 U_.vm ∧ U_.heap = h0) (fun _ _ _ _ _ => True) (fun _ U_ o_ U'_ => ∃ v_ L_, o_ = .returned v_ ∧ Q_growI Z a1 u1 a_DEFAULTCAPACITY_EMPTY_ELEMENTDATA k_a_DEFAULTCAPACITY_EMPTY_ELEMENTDATA h0 n0 v_ U'_.heap L_ ∧ FrameEnd U_ o_ U'_ L_ ({ frames := 1, cells := 1, slots := 10, locals := 14 } : Room).cells ({ frames := 1, cells := 1, slots := 10, locals := 14 } : Room).slots) := by
  refine MetFree.of_bodySF (plainFor_of_name pn7) hisR ?_
  intro p e s m args below meth c s₁ Bd hml0 hP hK
  obtain ⟨rfl, hZ, hh⟩ := hP
  have hx := Bd.exec
  have hby := Bd.bytes
  have hml : c.maxLocals = 4 := hml0
  have hown : s.vm.findClass "java/util/ArrayList" = some m.cls := findClass_of_methodNamed Bd.named
  have hnm := (name_of_methodNamed Bd.named Bd.method).1
  have X0 : Stand p l e ({ frames := 1, cells := 1, slots := 10, locals := 14 } : Room) s m #[(.ref a1), (.int (1 : Int32))] below meth c s₁ [] 0 0 := Stand.of_body Bd
  have e0 : s₁.heap = h0 := by rw [← hh, Bd.state]; rfl
  have N0 := Fr.nil n0
  have oz : Z.heap.size = n0 := O0.1
  have S0 : ∀ t_, Steps p.tables e below (s₁.setTop (mkF m 0 #[.val (.ref a1), .val (.int (1 : Int32)), .unset, .unset] [])) t_ → Steps p.tables e below (s₁.setTop (entryFrame m #[(.ref a1), (.int (1 : Int32))] 4)) t_ := fun t_ k_ => castTop (ef_growI m a1 u1 a_DEFAULTCAPACITY_EMPTY_ELEMENTDATA k_a_DEFAULTCAPACITY_EMPTY_ELEMENTDATA) k_
  have K0 := Keep.refl h0 [a1]
  have lt_a1 : (a1 : Nat) < (h0.size : Nat) := E1.lt
  have lt_a_DEFAULTCAPACITY_EMPTY_ELEMENTDATA : (a_DEFAULTCAPACITY_EMPTY_ELEMENTDATA : Nat) < (Z.heap.size : Nat) := E_a_DEFAULTCAPACITY_EMPTY_ELEMENTDATA.lt
  obtain ⟨T1, X1, e1, st1⟩ := getF X0 hx hZ hown (host := "") (Or.inl (tw136 hw)) Via.refl e0 F2 (g := (mkF m 1 #[.val (.ref a1), .val (.int (1 : Int32)), .unset, .unset] [(.ref a1)])) rfl rfl (hb hby d_jdk_38_method_6_1)
  obtain ⟨cl2, Ar2, q2, Sz2, Nn2, H2, G2⟩ := id (A_a_DEFAULTCAPACITY_EMPTY_ELEMENTDATA.ext O0.2)
  obtain ⟨T3, X3, e3, st3⟩ := getF X1 hx hZ hown (host := "") (Or.inl (tw136 hw)) Via.refl e1 F2 (g := (mkF m 11 #[.val (.ref a1), .val (.int (1 : Int32)), .val (.int (0 : Int32)), .unset] [(.ref a1)])) rfl rfl (hb hby d_jdk_38_method_6_11)
  obtain ⟨T4, X4, e4, st4⟩ := getS2 X3 hx hZ hown (host := "") (Or.inl (tw135 hw)) Via.refl e3 (S_DEFAULTCAPACITY_EMPTY_ELEMENTDATA.ext O0.2) (g := (mkF m 14 #[.val (.ref a1), .val (.int (1 : Int32)), .val (.int (0 : Int32)), .unset] [(.ref a_DEFAULTCAPACITY_EMPTY_ELEMENTDATA)])) rfl (hb hby d_jdk_38_method_6_14)
  obtain ⟨_, _, ⟨T5, L5, k5, n5⟩, -, X5, ⟨Lc5, hQ5, l5, y5, z5⟩, st5⟩ := Jvm.LawKit.callS X4 hx (y := (⟨"java/lang/Math", "max", "(II)I"⟩ : MethodName)) hown (mvT hZ (tw193 hw)) (mvT hZ (tw194 hw)) (mvT hZ (tw195 hw)) (mvT hZ (tw196 hw)) (by decide) (backOf (W := 1) (rm_mmax l Z a0 hw []  h0 n0 (by omega) O0 ) hZ (tw196 hw) (tw195 hw) (by decide) (by decide)) (g := (mkF m 49 #[.val (.ref a1), .val (.int (1 : Int32)), .val (.int (0 : Int32)), .unset] [(.int (1 : Int32)), (.int (10 : Int32)), (.ref a1)])) rfl (by rw [hml]; rfl) (argsL := [(.int (10 : Int32)), (.int (1 : Int32))]) (rest := [(.ref a1)]) (lenOf pd5 rfl) rfl (by show 2 * 0 + _ ≤ _; exact Nat.le_of_eq rfl) (hb hby d_jdk_38_method_6_49) (fun _ _ => ⟨rfl, e4, (by decide : 0 + 0 ≤ _), (by decide : 0 + 0 ≤ _)⟩)
  dsimp only [Pt.U, Pt.locs, Pt.cells, Pt.slots] at X5 l5 y5 z5 st5 hQ5
  subst l5 y5 z5
  obtain ⟨rfl, N5q, Kq5⟩ := hQ5
  have N5 := Fr.app N0 N5q
  obtain ⟨T6, h6, k6, X6, e6, E6, A6, B6, V6, st6⟩ := newRE X5 hx hZ hown (tw197 hw) (tw198 hw) Kq5 (g := (mkF m 52 #[.val (.ref a1), .val (.int (1 : Int32)), .val (.int (0 : Int32)), .unset] [(.int (10 : Int32)), (.ref a1)])) rfl (hb hby d_jdk_38_method_6_52) rfl (by decide) (cap := 10) (by decide) (by decide) (by decide) (by decide) (ad := "[Ljava/lang/Object;") (by decide)
  obtain ⟨b6, g6⟩ : ∃ z, z = h0.size := ⟨_, rfl⟩
  rw [← g6] at A6 B6 st6
  have lb6 : (b6 : Nat) < (h6.size : Nat) := A6.lt
  have v6 : Arv Z h6 b6 k6 (.object "java/lang/Object") (10 : Int32) [.null, .null, .null, .null, .null, .null, .null, .null, .null, .null] .null := (Arv.new A6 (by decide)).pad (pad_rep [] .null 10)
  have z6 := E6.1
  have K6 := K0.ext E6
  have O6 := O0.ext E6
  have f7 := (E1.ext E6)
  have f8 := (F2.ext E6)
  obtain ⟨T9, h9, X9, e9, W9, st9⟩ := putF X6 hx hZ hown (host := "") (Or.inl (tw136 hw)) Via.refl e6 f8 f7 (Or.inl (tw137 hw)) (tw115 hw) (ty := (.array (.object "java/lang/Object"))) (by decide) rfl rfl (g := (mkF m 56 #[.val (.ref a1), .val (.int (1 : Int32)), .val (.int (0 : Int32)), .unset] [(.ref b6), (.ref a1), (.ref b6)])) rfl rfl (hb hby d_jdk_38_method_6_56)
  have z9 := W9.size
  have K9 := K6.wr W9 (Or.inl (by simp))
  have N9 := Fr.snoc X9 N5 (by omega)
  have O9 := O6.wr W9 (by omega)
  have fw9 := f8.same W9
  have S10 : ∀ t_, Steps p.tables e below (T9.setTop (mkF m 59 #[.val (.ref a1), .val (.int (1 : Int32)), .val (.int (0 : Int32)), .unset] [(.ref b6)])) t_ → Steps p.tables e below (s₁.setTop (entryFrame m #[(.ref a1), (.int (1 : Int32))] 4)) t_ := by
    intro t_ k_
    refine S0 t_ ?_
    show Steps p.tables e below (s₁.setTop (mkF m 0 #[.val (.ref a1), .val (.int (1 : Int32)), .unset, .unset] [])) _
    refine XS.aloadN X0.here hx rfl (hb hby d_jdk_38_method_6_0) rfl rfl ?_
    show Steps p.tables e below (s₁.setTop (mkF m 1 #[.val (.ref a1), .val (.int (1 : Int32)), .unset, .unset] [(.ref a1)])) _
    refine st1 _ ?_
    show Steps p.tables e below (T1.setTop (mkF m 4 #[.val (.ref a1), .val (.int (1 : Int32)), .unset, .unset] [(.ref a_DEFAULTCAPACITY_EMPTY_ELEMENTDATA)])) _
    refine X1.arraylength hx (by rw [e1]; exact Ar2.1) (State.isArrayOf_alike hZ.alike Ar2.2.1) (g := (mkF m 4 #[.val (.ref a1), .val (.int (1 : Int32)), .unset, .unset] [(.ref a_DEFAULTCAPACITY_EMPTY_ELEMENTDATA)])) rfl rfl (hb hby d_jdk_38_method_6_4) _ ?_
    rw [len_of Sz2 Nn2]
    show Steps p.tables e below (T1.setTop (mkF m 5 #[.val (.ref a1), .val (.int (1 : Int32)), .unset, .unset] [(.int (0 : Int32))])) _
    refine XS.istoreN X1.here hx rfl (hb hby d_jdk_38_method_6_5) rfl (l' := #[.val (.ref a1), .val (.int (1 : Int32)), .val (.int (0 : Int32)), .unset]) rfl ?_
    show Steps p.tables e below (T1.setTop (mkF m 6 #[.val (.ref a1), .val (.int (1 : Int32)), .val (.int (0 : Int32)), .unset] [])) _
    refine XS.iloadN X1.here hx rfl (hb hby d_jdk_38_method_6_6) rfl ?_
    show Steps p.tables e below (T1.setTop (mkF m 7 #[.val (.ref a1), .val (.int (1 : Int32)), .val (.int (0 : Int32)), .unset] [(.int (0 : Int32))])) _
    refine XS.ifNo X1.here hx rfl (hb hby d_jdk_38_method_6_7) rfl (by decide) ?_
    show Steps p.tables e below (T1.setTop (mkF m 10 #[.val (.ref a1), .val (.int (1 : Int32)), .val (.int (0 : Int32)), .unset] [])) _
    refine XS.aloadN X1.here hx rfl (hb hby d_jdk_38_method_6_10) rfl rfl ?_
    show Steps p.tables e below (T1.setTop (mkF m 11 #[.val (.ref a1), .val (.int (1 : Int32)), .val (.int (0 : Int32)), .unset] [(.ref a1)])) _
    refine st3 _ ?_
    show Steps p.tables e below (T3.setTop (mkF m 14 #[.val (.ref a1), .val (.int (1 : Int32)), .val (.int (0 : Int32)), .unset] [(.ref a_DEFAULTCAPACITY_EMPTY_ELEMENTDATA)])) _
    refine st4 _ ?_
    show Steps p.tables e below (T4.setTop (mkF m 17 #[.val (.ref a1), .val (.int (1 : Int32)), .val (.int (0 : Int32)), .unset] [(.ref a_DEFAULTCAPACITY_EMPTY_ELEMENTDATA), (.ref a_DEFAULTCAPACITY_EMPTY_ELEMENTDATA)])) _
    refine Jvm.RoadKit.acmp (g := (mkF m 17 #[.val (.ref a1), .val (.int (1 : Int32)), .val (.int (0 : Int32)), .unset] [(.ref a_DEFAULTCAPACITY_EMPTY_ELEMENTDATA), (.ref a_DEFAULTCAPACITY_EMPTY_ELEMENTDATA)])) X4 hx rfl rfl rfl (pc0 := 17) (pc' := 45) (same := true) rfl (hb hby d_jdk_38_method_6_17) rfl (decide_eq_true rfl) (by decide) (by decide) ?_
    show Steps p.tables e below (T4.setTop (mkF m 45 #[.val (.ref a1), .val (.int (1 : Int32)), .val (.int (0 : Int32)), .unset] [])) _
    refine XS.aloadN X4.here hx rfl (hb hby d_jdk_38_method_6_45) rfl rfl ?_
    show Steps p.tables e below (T4.setTop (mkF m 46 #[.val (.ref a1), .val (.int (1 : Int32)), .val (.int (0 : Int32)), .unset] [(.ref a1)])) _
    refine XT.bipushV X4.here hx rfl (10 : Int32) (hb hby d_jdk_38_method_6_46) (by decide) ?_
    show Steps p.tables e below (T4.setTop (mkF m 48 #[.val (.ref a1), .val (.int (1 : Int32)), .val (.int (0 : Int32)), .unset] [(.int (10 : Int32)), (.ref a1)])) _
    refine XS.iloadN X4.here hx rfl (hb hby d_jdk_38_method_6_48) rfl ?_
    show Steps p.tables e below (T4.setTop (mkF m 49 #[.val (.ref a1), .val (.int (1 : Int32)), .val (.int (0 : Int32)), .unset] [(.int (1 : Int32)), (.int (10 : Int32)), (.ref a1)])) _
    refine st5 _ ?_
    show Steps p.tables e below (T5.setTop (mkF m 52 #[.val (.ref a1), .val (.int (1 : Int32)), .val (.int (0 : Int32)), .unset] [(.int (10 : Int32)), (.ref a1)])) _
    refine st6 _ ?_
    show Steps p.tables e below (T6.setTop (mkF m 55 #[.val (.ref a1), .val (.int (1 : Int32)), .val (.int (0 : Int32)), .unset] [(.ref b6), (.ref a1)])) _
    refine XS.dupX1 X6.here hx rfl (hb hby d_jdk_38_method_6_55) rfl rfl rfl ?_
    show Steps p.tables e below (T6.setTop (mkF m 56 #[.val (.ref a1), .val (.int (1 : Int32)), .val (.int (0 : Int32)), .unset] [(.ref b6), (.ref a1), (.ref b6)])) _
    refine st9 _ ?_
    exact k_
  obtain ⟨fs, hr, hrun, hended, hW, hsame⟩ := X9.leave (v := (some (.ref b6))) (fun h => by rw [Bd.returns] at h; cases h)
  refine ⟨_, _, S10 _ ((retOut X9 hx Bd.returns rfl (Or.inr (Or.inr (Or.inr (Or.inr ⟨rfl, rfl, rfl⟩)))) (hb hby d_jdk_38_method_6_59) hr)), hrun, hended, _, _, rfl, ?_, ⟨_, rfl⟩, hW, hsame.mono (by decide) (by decide)⟩
  show Q_growI Z a1 u1 a_DEFAULTCAPACITY_EMPTY_ELEMENTDATA k_a_DEFAULTCAPACITY_EMPTY_ELEMENTDATA h0 n0 _ T9.heap _
  rw [e9]
  have f11 := (f7.wr W9)
  have f12 := ((F1.ext E6).other W9 (Or.inr (slot_ne (Or.inl (tw134 hw)) (Or.inl (tw137 hw)) (by decide) (t := .int) (t' := (.array (.object "java/lang/Object"))) (by decide) (by decide))))
  have f13 := ((F3.ext E6).other W9 (Or.inr (slot_ne (Or.inl (tw169 hw)) (Or.inl (tw137 hw)) (by decide) (t := .int) (t' := (.array (.object "java/lang/Object"))) (by decide) (by decide))))
  have f14 := (v6.other W9 (by omega : (b6 : Nat) ≠ (a1 : Nat)))
  have f15 := (B6.wr W9)
  exact ⟨b6, k6, rfl, N9, K9, f11, f12, fw9, f13, f14, f15, ⟨by omega, V6⟩⟩
def Q_grow0 (Z : State) (a1 : Nat) (u1 : Int32) (a_DEFAULTCAPACITY_EMPTY_ELEMENTDATA : Nat) (k_a_DEFAULTCAPACITY_EMPTY_ELEMENTDATA : ClassId) (h0 : Heap) (n0 : Nat) (v : Option Value) (h : Heap) (L : List Loc) : Prop := ∃ (b : Nat), ∃ (kb : ClassId), v = some (.ref b) ∧ Fr n0 L ∧ Keep h0 h [a1] ∧ (Exa Z h a1 "java/util/ArrayList") ∧ (Fld Z h a1 "java/util/AbstractList" "modCount" "I" (.int u1)) ∧ (Fld Z h a1 "java/util/ArrayList" "elementData" "[Ljava/lang/Object;" (.ref b)) ∧ (Fld Z h a1 "java/util/ArrayList" "size" "I" (.int (0 : Int32))) ∧ (Arv Z h b kb (.object "java/lang/Object") (10 : Int32) [.null, .null, .null, .null, .null, .null, .null, .null, .null, .null] .null) ∧ (Exa Z h b "[Ljava/lang/Object;") ∧ (h0.size ≤ b ∧ Ovr Z kb "java/lang/Object")
theorem ef_grow0 (m : MethodId) (a1 : Nat) (u1 : Int32) (a_DEFAULTCAPACITY_EMPTY_ELEMENTDATA : Nat) (k_a_DEFAULTCAPACITY_EMPTY_ELEMENTDATA : ClassId) : entryFrame m #[(.ref a1)] 1 = (mkF m 0 #[.val (.ref a1)] []) := by first | (simp [entryFrame, mkF, argsToLocals, Value.category]; done) | rfl
set_option maxRecDepth 65536 in
set_option maxHeartbeats 40000000 in
theorem rm_grow0 (l : Launch) (Z : State) (a0 : Array Value) (hw : ∀ d ∈ tables_1, d.before a0 Z = true) (ws : List Jvm.Cond) (a1 : Nat) (u1 : Int32) (a_DEFAULTCAPACITY_EMPTY_ELEMENTDATA : Nat) (k_a_DEFAULTCAPACITY_EMPTY_ELEMENTDATA : ClassId) (h0 : Heap) (n0 : Nat) (Z0 : n0 ≤ h0.size) (O0 : Old Z n0 h0) (E1 : Exa Z h0 a1 "java/util/ArrayList") (F1 : Fld Z h0 a1 "java/util/AbstractList" "modCount" "I" (.int u1)) (F2 : Fld Z h0 a1 "java/util/ArrayList" "elementData" "[Ljava/lang/Object;" (.ref a_DEFAULTCAPACITY_EMPTY_ELEMENTDATA)) (F3 : Fld Z h0 a1 "java/util/ArrayList" "size" "I" (.int (0 : Int32))) (ga : n0 ≤ a1) (S_DEFAULTCAPACITY_EMPTY_ELEMENTDATA : Sta Z Z.heap "java/util/ArrayList" "DEFAULTCAPACITY_EMPTY_ELEMENTDATA" "[Ljava/lang/Object;" (.ref a_DEFAULTCAPACITY_EMPTY_ELEMENTDATA)) (E_a_DEFAULTCAPACITY_EMPTY_ELEMENTDATA : Exa Z Z.heap a_DEFAULTCAPACITY_EMPTY_ELEMENTDATA "[Ljava/lang/Object;") (A_a_DEFAULTCAPACITY_EMPTY_ELEMENTDATA : Arv Z Z.heap a_DEFAULTCAPACITY_EMPTY_ELEMENTDATA k_a_DEFAULTCAPACITY_EMPTY_ELEMENTDATA (.object "java/lang/Object") (0 : Int32) [] .null) :
    MetFree l (⟨"java/util/ArrayList", "grow", "()[Ljava/lang/Object;"⟩ : MethodName) (head1 (Jvm.Cond.code (⟨"java/util/ArrayList", "grow", "()[Ljava/lang/Object;"⟩ : MethodName) jdk_38_method_7_code 1 (some (.array (.object "java/lang/Object"))) :: ws) ({ frames := 2, cells := 1, slots := 10, locals := 29 } : Room)) (fun a_ U_ => a_ = #[(.ref a1)] ∧ Z.Warmed39 U_.vm ∧ U_.heap = h0) (fun _ _ _ _ _ => True) (fun _ U_ o_ U'_ => ∃ v_ L_, o_ = .returned v_ ∧ Q_grow0 Z a1 u1 a_DEFAULTCAPACITY_EMPTY_ELEMENTDATA k_a_DEFAULTCAPACITY_EMPTY_ELEMENTDATA h0 n0 v_ U'_.heap L_ ∧ FrameEnd U_ o_ U'_ L_ ({ frames := 2, cells := 1, slots := 10, locals := 29 } : Room).cells ({ frames := 2, cells := 1, slots := 10, locals := 29 } : Room).slots) := by
  refine MetFree.of_bodySF (plainFor_of_name pn7) hisR ?_
  intro p e s m args below meth c s₁ Bd hml0 hP hK
  obtain ⟨rfl, hZ, hh⟩ := hP
  have hx := Bd.exec
  have hby := Bd.bytes
  have hml : c.maxLocals = 1 := hml0
  have hown : s.vm.findClass "java/util/ArrayList" = some m.cls := findClass_of_methodNamed Bd.named
  have hnm := (name_of_methodNamed Bd.named Bd.method).1
  have X0 : Stand p l e ({ frames := 2, cells := 1, slots := 10, locals := 29 } : Room) s m #[(.ref a1)] below meth c s₁ [] 0 0 := Stand.of_body Bd
  have e0 : s₁.heap = h0 := by rw [← hh, Bd.state]; rfl
  have N0 := Fr.nil n0
  have oz : Z.heap.size = n0 := O0.1
  have S0 : ∀ t_, Steps p.tables e below (s₁.setTop (mkF m 0 #[.val (.ref a1)] [])) t_ → Steps p.tables e below (s₁.setTop (entryFrame m #[(.ref a1)] 1)) t_ := fun t_ k_ => castTop (ef_grow0 m a1 u1 a_DEFAULTCAPACITY_EMPTY_ELEMENTDATA k_a_DEFAULTCAPACITY_EMPTY_ELEMENTDATA) k_
  have K0 := Keep.refl h0 [a1]
  have lt_a1 : (a1 : Nat) < (h0.size : Nat) := E1.lt
  have lt_a_DEFAULTCAPACITY_EMPTY_ELEMENTDATA : (a_DEFAULTCAPACITY_EMPTY_ELEMENTDATA : Nat) < (Z.heap.size : Nat) := E_a_DEFAULTCAPACITY_EMPTY_ELEMENTDATA.lt
  obtain ⟨T1, X1, e1, st1⟩ := getF X0 hx hZ hown (host := "") (Or.inl (tw168 hw)) Via.refl e0 F3 (g := (mkF m 2 #[.val (.ref a1)] [(.ref a1), (.ref a1)])) rfl rfl (hb hby d_jdk_38_method_7_2)
  obtain ⟨cq2, q2, q2'⟩ := E1.cell
  obtain ⟨_, _, ⟨T2, L2, k2, n2⟩, -, X2, ⟨Lc2, hQ2, l2, y2, z2⟩, st2⟩ := X1.privateBack hx (y := (⟨"java/util/ArrayList", "grow", "(I)[Ljava/lang/Object;"⟩ : MethodName)) hown (mvT hZ (tw188 hw)) (mvT hZ (tw189 hw)) (mvT hZ (tw191 hw)) (Cond.privateMethod_at (mvP hZ (tw190 hw) (args := #[]))) (mvT hZ (tw192 hw)) (by decide) (backOf (W := 0) (rm_growI l Z a0 hw [] a1 u1 a_DEFAULTCAPACITY_EMPTY_ELEMENTDATA k_a_DEFAULTCAPACITY_EMPTY_ELEMENTDATA h0 n0 (by omega) O0 E1 F1 F2 F3 (by omega) S_DEFAULTCAPACITY_EMPTY_ELEMENTDATA E_a_DEFAULTCAPACITY_EMPTY_ELEMENTDATA A_a_DEFAULTCAPACITY_EMPTY_ELEMENTDATA) hZ (tw192 hw) (tw116 hw) (by decide) (by decide)) (g := (mkF m 7 #[.val (.ref a1)] [(.int (1 : Int32)), (.ref a1)])) rfl (by rw [hml]; rfl) (Steps.refl _) (a := a1) (by rw [e1]; exact q2) q2' (argsL := [(.int (1 : Int32))]) (rest := []) (lenOf pd6 rfl) rfl (by show 2 * 0 + _ ≤ _; exact Nat.le_of_eq rfl) (hb hby d_jdk_38_method_7_7) (fun _ _ => ⟨rfl, e1, (by decide : 0 + 1 ≤ _), (by decide : 0 + 10 ≤ _)⟩)
  dsimp only [Pt.U, Pt.locs, Pt.cells, Pt.slots] at X2 l2 y2 z2 st2 hQ2
  subst l2 y2 z2
  obtain ⟨b3, kb4, rfl, N2q, Kq2, p2_0, p2_1, p2_2, p2_3, p2_4, p2_5, p2_6⟩ := hQ2
  have N2 := Fr.app N0 N2q
  have z2 := Kq2.1
  have K2 := K0.trans Kq2 (allS (Or.inl (by simp)) all0)
  have O2 := O0.keep Kq2 (allS (by omega) all0)
  have lq5 : (a1 : Nat) < (T2.heap.size : Nat) := p2_0.lt
  have lq6 : (a1 : Nat) < (T2.heap.size : Nat) := p2_1.lt
  have lq7 : (a1 : Nat) < (T2.heap.size : Nat) := p2_2.lt
  have lq8 : (a1 : Nat) < (T2.heap.size : Nat) := p2_3.lt
  have lq9 : (b3 : Nat) < (T2.heap.size : Nat) := p2_4.lt
  have lq10 : (b3 : Nat) < (T2.heap.size : Nat) := p2_5.lt
  have bq2 := p2_6.1
  have S11 : ∀ t_, Steps p.tables e below (T2.setTop (mkF m 10 #[.val (.ref a1)] [(.ref b3)])) t_ → Steps p.tables e below (s₁.setTop (entryFrame m #[(.ref a1)] 1)) t_ := by
    intro t_ k_
    refine S0 t_ ?_
    show Steps p.tables e below (s₁.setTop (mkF m 0 #[.val (.ref a1)] [])) _
    refine XS.aloadN X0.here hx rfl (hb hby d_jdk_38_method_7_0) rfl rfl ?_
    show Steps p.tables e below (s₁.setTop (mkF m 1 #[.val (.ref a1)] [(.ref a1)])) _
    refine XS.aloadN X0.here hx rfl (hb hby d_jdk_38_method_7_1) rfl rfl ?_
    show Steps p.tables e below (s₁.setTop (mkF m 2 #[.val (.ref a1)] [(.ref a1), (.ref a1)])) _
    refine st1 _ ?_
    show Steps p.tables e below (T1.setTop (mkF m 5 #[.val (.ref a1)] [(.int (0 : Int32)), (.ref a1)])) _
    refine XT.iconstV X1.here hx rfl (1 : Int32) (hb hby d_jdk_38_method_7_5) (by decide) ?_
    show Steps p.tables e below (T1.setTop (mkF m 6 #[.val (.ref a1)] [(.int (1 : Int32)), (.int (0 : Int32)), (.ref a1)])) _
    refine own_op_iadd X1.here hx rfl (hb hby d_jdk_38_method_7_6) rfl (z := (1 : Int32)) (by decide) ?_
    show Steps p.tables e below (T1.setTop (mkF m 7 #[.val (.ref a1)] [(.int (1 : Int32)), (.ref a1)])) _
    refine st2.trans ?_
    exact k_
  obtain ⟨fs, hr, hrun, hended, hW, hsame⟩ := X2.leave (v := (some (.ref b3))) (fun h => by rw [Bd.returns] at h; cases h)
  refine ⟨_, _, S11 _ ((retOut X2 hx Bd.returns rfl (Or.inr (Or.inr (Or.inr (Or.inr ⟨rfl, rfl, rfl⟩)))) (hb hby d_jdk_38_method_7_10) hr)), hrun, hended, _, _, rfl, ?_, ⟨_, rfl⟩, hW, hsame.mono (by decide) (by decide)⟩
  show Q_grow0 Z a1 u1 a_DEFAULTCAPACITY_EMPTY_ELEMENTDATA k_a_DEFAULTCAPACITY_EMPTY_ELEMENTDATA h0 n0 _ T2.heap _
  exact ⟨b3, kb4, rfl, N2, K2, p2_0, p2_1, p2_2, p2_3, p2_4, p2_5, ⟨by omega, p2_6.2⟩⟩
def Q_add3 (Z : State) (a1 : Nat) (x : Nat) (u1 : Int32) (a_DEFAULTCAPACITY_EMPTY_ELEMENTDATA : Nat) (k_a_DEFAULTCAPACITY_EMPTY_ELEMENTDATA : ClassId) (h0 : Heap) (n0 : Nat) (v : Option Value) (h : Heap) (L : List Loc) : Prop := ∃ (b : Nat), ∃ (kb : ClassId), v = none ∧ Fr n0 L ∧ Keep h0 h [a1] ∧ (Exa Z h a1 "java/util/ArrayList") ∧ (Fld Z h a1 "java/util/AbstractList" "modCount" "I" (.int u1)) ∧ (Fld Z h a1 "java/util/ArrayList" "elementData" "[Ljava/lang/Object;" (.ref b)) ∧ (Fld Z h a1 "java/util/ArrayList" "size" "I" (.int (1 : Int32))) ∧ (Arv Z h b kb (.object "java/lang/Object") (10 : Int32) [(.ref x), .null, .null, .null, .null, .null, .null, .null, .null, .null] .null) ∧ (Exa Z h b "[Ljava/lang/Object;") ∧ (h0.size ≤ b)
theorem ef_add3 (m : MethodId) (a1 : Nat) (x : Nat) (u1 : Int32) (a_DEFAULTCAPACITY_EMPTY_ELEMENTDATA : Nat) (k_a_DEFAULTCAPACITY_EMPTY_ELEMENTDATA : ClassId) : entryFrame m #[(.ref a1), (.ref x), (.ref a_DEFAULTCAPACITY_EMPTY_ELEMENTDATA), (.int (0 : Int32))] 4 = (mkF m 0 #[.val (.ref a1), .val (.ref x), .val (.ref a_DEFAULTCAPACITY_EMPTY_ELEMENTDATA), .val (.int (0 : Int32))] []) := by first | (simp [entryFrame, mkF, argsToLocals, Value.category]; done) | rfl
set_option maxRecDepth 65536 in
set_option maxHeartbeats 40000000 in
theorem rm_add3 (l : Launch) (Z : State) (a0 : Array Value) (hw : ∀ d ∈ tables_1, d.before a0 Z = true) (ws : List Jvm.Cond) (a1 : Nat) (x : Nat) (u1 : Int32) (a_DEFAULTCAPACITY_EMPTY_ELEMENTDATA : Nat) (k_a_DEFAULTCAPACITY_EMPTY_ELEMENTDATA : ClassId) (h0 : Heap) (n0 : Nat) (Z0 : n0 ≤ h0.size) (O0 : Old Z n0 h0) (E1 : Exa Z h0 a1 "java/util/ArrayList") (Ex : Exa Z h0 x "java/lang/String") (F1 : Fld Z h0 a1 "java/util/AbstractList" "modCount" "I" (.int u1)) (F2 : Fld Z h0 a1 "java/util/ArrayList" "elementData" "[Ljava/lang/Object;" (.ref a_DEFAULTCAPACITY_EMPTY_ELEMENTDATA)) (F3 : Fld Z h0 a1 "java/util/ArrayList" "size" "I" (.int (0 : Int32))) (ga : n0 ≤ a1) (S_DEFAULTCAPACITY_EMPTY_ELEMENTDATA : Sta Z Z.heap "java/util/ArrayList" "DEFAULTCAPACITY_EMPTY_ELEMENTDATA" "[Ljava/lang/Object;" (.ref a_DEFAULTCAPACITY_EMPTY_ELEMENTDATA)) (E_a_DEFAULTCAPACITY_EMPTY_ELEMENTDATA : Exa Z Z.heap a_DEFAULTCAPACITY_EMPTY_ELEMENTDATA "[Ljava/lang/Object;") (A_a_DEFAULTCAPACITY_EMPTY_ELEMENTDATA : Arv Z Z.heap a_DEFAULTCAPACITY_EMPTY_ELEMENTDATA k_a_DEFAULTCAPACITY_EMPTY_ELEMENTDATA (.object "java/lang/Object") (0 : Int32) [] .null) :
    MetFree l (⟨"java/util/ArrayList", "add", "(Ljava/lang/Object;[Ljava/lang/Object;I)V"⟩ : MethodName) (head1 (Jvm.Cond.code (⟨"java/util/ArrayList", "add", "(Ljava/lang/Object;[Ljava/lang/Object;I)V"⟩ : MethodName) jdk_38_method_24_code 4 none :: ws) ({ frames := 3, cells := 1, slots := 10, locals := 41 } : Room)) (fun a_ U_ => a_ = #[(.ref a1), (.ref x), (.ref a_DEFAULTCAPACITY_EMPTY_ELEMENTDATA), (.int (0 : Int32))] ∧ Z.Warmed39 U_.vm ∧ U_.heap = h0) (fun _ _ _ _ _ => True) (fun _ U_ o_ U'_ => ∃ v_ L_, o_ = .returned v_ ∧ Q_add3 Z a1 x u1 a_DEFAULTCAPACITY_EMPTY_ELEMENTDATA k_a_DEFAULTCAPACITY_EMPTY_ELEMENTDATA h0 n0 v_ U'_.heap L_ ∧ FrameEnd U_ o_ U'_ L_ ({ frames := 3, cells := 1, slots := 10, locals := 41 } : Room).cells ({ frames := 3, cells := 1, slots := 10, locals := 41 } : Room).slots) := by
  refine MetFree.of_bodySF (plainFor_of_name pn7) hisR ?_
  intro p e s m args below meth c s₁ Bd hml0 hP hK
  obtain ⟨rfl, hZ, hh⟩ := hP
  have hx := Bd.exec
  have hby := Bd.bytes
  have hml : c.maxLocals = 4 := hml0
  have hown : s.vm.findClass "java/util/ArrayList" = some m.cls := findClass_of_methodNamed Bd.named
  have hnm := (name_of_methodNamed Bd.named Bd.method).1
  have X0 : Stand p l e ({ frames := 3, cells := 1, slots := 10, locals := 41 } : Room) s m #[(.ref a1), (.ref x), (.ref a_DEFAULTCAPACITY_EMPTY_ELEMENTDATA), (.int (0 : Int32))] below meth c s₁ [] 0 0 := Stand.of_body Bd
  have e0 : s₁.heap = h0 := by rw [← hh, Bd.state]; rfl
  have N0 := Fr.nil n0
  have oz : Z.heap.size = n0 := O0.1
  have S0 : ∀ t_, Steps p.tables e below (s₁.setTop (mkF m 0 #[.val (.ref a1), .val (.ref x), .val (.ref a_DEFAULTCAPACITY_EMPTY_ELEMENTDATA), .val (.int (0 : Int32))] [])) t_ → Steps p.tables e below (s₁.setTop (entryFrame m #[(.ref a1), (.ref x), (.ref a_DEFAULTCAPACITY_EMPTY_ELEMENTDATA), (.int (0 : Int32))] 4)) t_ := fun t_ k_ => castTop (ef_add3 m a1 x u1 a_DEFAULTCAPACITY_EMPTY_ELEMENTDATA k_a_DEFAULTCAPACITY_EMPTY_ELEMENTDATA) k_
  have K0 := Keep.refl h0 [a1]
  have lt_a1 : (a1 : Nat) < (h0.size : Nat) := E1.lt
  have lt_x : (x : Nat) < (h0.size : Nat) := Ex.lt
  have lt_a_DEFAULTCAPACITY_EMPTY_ELEMENTDATA : (a_DEFAULTCAPACITY_EMPTY_ELEMENTDATA : Nat) < (Z.heap.size : Nat) := E_a_DEFAULTCAPACITY_EMPTY_ELEMENTDATA.lt
  obtain ⟨cl1, Ar1, q1, Sz1, Nn1, H1, G1⟩ := id (A_a_DEFAULTCAPACITY_EMPTY_ELEMENTDATA.ext O0.2)
  obtain ⟨cq2, q2, q2'⟩ := E1.cell
  obtain ⟨_, _, ⟨T2, L2, k2, n2⟩, -, X2, ⟨Lc2, hQ2, l2, y2, z2⟩, st2⟩ := X0.privateBack hx (y := (⟨"java/util/ArrayList", "grow", "()[Ljava/lang/Object;"⟩ : MethodName)) hown (mvT hZ (tw183 hw)) (mvT hZ (tw184 hw)) (mvT hZ (tw186 hw)) (Cond.privateMethod_at (mvP hZ (tw185 hw) (args := #[]))) (mvT hZ (tw187 hw)) (by decide) (backOf (W := 0) (rm_grow0 l Z a0 hw [] a1 u1 a_DEFAULTCAPACITY_EMPTY_ELEMENTDATA k_a_DEFAULTCAPACITY_EMPTY_ELEMENTDATA h0 n0 (by omega) O0 E1 F1 F2 F3 (by omega) S_DEFAULTCAPACITY_EMPTY_ELEMENTDATA E_a_DEFAULTCAPACITY_EMPTY_ELEMENTDATA A_a_DEFAULTCAPACITY_EMPTY_ELEMENTDATA) hZ (tw187 hw) (tw116 hw) (by decide) (by decide)) (g := (mkF m 7 #[.val (.ref a1), .val (.ref x), .val (.ref a_DEFAULTCAPACITY_EMPTY_ELEMENTDATA), .val (.int (0 : Int32))] [(.ref a1)])) rfl (by rw [hml]; rfl) (Steps.refl _) (a := a1) (by rw [e0]; exact q2) q2' (argsL := []) (rest := []) (lenOf pd7 rfl) rfl (by show 2 * 0 + _ ≤ _; exact Nat.le_of_eq rfl) (hb hby d_jdk_38_method_24_7) (fun _ _ => ⟨rfl, e0, (by decide : 0 + 1 ≤ _), (by decide : 0 + 10 ≤ _)⟩)
  dsimp only [Pt.U, Pt.locs, Pt.cells, Pt.slots] at X2 l2 y2 z2 st2 hQ2
  subst l2 y2 z2
  obtain ⟨b3, kb4, rfl, N2q, Kq2, p2_0, p2_1, p2_2, p2_3, p2_4, p2_5, p2_6⟩ := hQ2
  have N2 := Fr.app N0 N2q
  have z2 := Kq2.1
  have K2 := K0.trans Kq2 (allS (Or.inl (by simp)) all0)
  have O2 := O0.keep Kq2 (allS (by omega) all0)
  have lq5 : (a1 : Nat) < (T2.heap.size : Nat) := p2_0.lt
  have lq6 : (a1 : Nat) < (T2.heap.size : Nat) := p2_1.lt
  have lq7 : (a1 : Nat) < (T2.heap.size : Nat) := p2_2.lt
  have lq8 : (a1 : Nat) < (T2.heap.size : Nat) := p2_3.lt
  have lq9 : (b3 : Nat) < (T2.heap.size : Nat) := p2_4.lt
  have lq10 : (b3 : Nat) < (T2.heap.size : Nat) := p2_5.lt
  have bq2 := p2_6.1
  obtain ⟨cl11, Ar11, q11, Sz11, Nn11, H11, G11⟩ := id p2_4
  have hin11 : ¬ ((0 : Int32) < 0 ∨ cl11.slots.size ≤ ((0 : Int32)).toNatClampNeg) := inb_of Sz11 ⟨by decide, by decide⟩
  have f13 := (Ex.keep Kq2)
  obtain ⟨T12, h12, X12, e12, W12, st12⟩ := stR X2 hx hZ rfl Ar11 (j := (0 : Int32)) hin11 rfl (Sto.ofV Ar11 q11 p2_6.2 (Ins.of_exa f13 (tw199 hw))) (g := (mkF m 14 #[.val (.ref a1), .val (.ref x), .val (.ref b3), .val (.int (0 : Int32))] [(.ref x), (.int (0 : Int32)), (.ref b3)])) rfl rfl (hb hby d_jdk_38_method_24_14)
  have z12 := W12.size
  have K12 := K2.wr W12 (Or.inr (by omega))
  have N12 := Fr.snoc X12 N2 (by omega)
  have O12 := O2.wr W12 (by omega)
  have v12 : Arv Z h12 b3 kb4 (.object "java/lang/Object") (10 : Int32) [(.ref x), .null, .null, .null, .null, .null, .null, .null, .null, .null] .null := Arv.set Ar11 q11 Sz11 Nn11 H11 G11 rfl W12 0 rfl (Nat.le_of_ble_eq_true rfl)
  have f14 := (p2_0.wr W12)
  have f15 := (p2_3.other W12 (Or.inl (by omega : (a1 : Nat) ≠ (b3 : Nat))))
  obtain ⟨T16, h16, X16, e16, W16, st16⟩ := putF X12 hx hZ hown (host := "") (Or.inl (tw168 hw)) Via.refl e12 f15 f14 (Or.inl (tw169 hw)) (tw115 hw) (ty := .int) (by decide) rfl rfl (g := (mkF m 19 #[.val (.ref a1), .val (.ref x), .val (.ref b3), .val (.int (0 : Int32))] [(.int (1 : Int32)), (.ref a1)])) rfl rfl (hb hby d_jdk_38_method_24_19)
  have z16 := W16.size
  have K16 := K12.wr W16 (Or.inl (by simp))
  have N16 := Fr.snoc X16 N12 (by omega)
  have O16 := O12.wr W16 (by omega)
  have fw16 := f15.same W16
  have S17 : ∀ t_, Steps p.tables e below (T16.setTop (mkF m 22 #[.val (.ref a1), .val (.ref x), .val (.ref b3), .val (.int (0 : Int32))] [])) t_ → Steps p.tables e below (s₁.setTop (entryFrame m #[(.ref a1), (.ref x), (.ref a_DEFAULTCAPACITY_EMPTY_ELEMENTDATA), (.int (0 : Int32))] 4)) t_ := by
    intro t_ k_
    refine S0 t_ ?_
    show Steps p.tables e below (s₁.setTop (mkF m 0 #[.val (.ref a1), .val (.ref x), .val (.ref a_DEFAULTCAPACITY_EMPTY_ELEMENTDATA), .val (.int (0 : Int32))] [])) _
    refine XS.iloadN X0.here hx rfl (hb hby d_jdk_38_method_24_0) rfl ?_
    show Steps p.tables e below (s₁.setTop (mkF m 1 #[.val (.ref a1), .val (.ref x), .val (.ref a_DEFAULTCAPACITY_EMPTY_ELEMENTDATA), .val (.int (0 : Int32))] [(.int (0 : Int32))])) _
    refine XS.aloadN X0.here hx rfl (hb hby d_jdk_38_method_24_1) rfl rfl ?_
    show Steps p.tables e below (s₁.setTop (mkF m 2 #[.val (.ref a1), .val (.ref x), .val (.ref a_DEFAULTCAPACITY_EMPTY_ELEMENTDATA), .val (.int (0 : Int32))] [(.ref a_DEFAULTCAPACITY_EMPTY_ELEMENTDATA), (.int (0 : Int32))])) _
    refine X0.arraylength hx (by rw [e0]; exact Ar1.1) (State.isArrayOf_alike hZ.alike Ar1.2.1) (g := (mkF m 2 #[.val (.ref a1), .val (.ref x), .val (.ref a_DEFAULTCAPACITY_EMPTY_ELEMENTDATA), .val (.int (0 : Int32))] [(.ref a_DEFAULTCAPACITY_EMPTY_ELEMENTDATA), (.int (0 : Int32))])) rfl rfl (hb hby d_jdk_38_method_24_2) _ ?_
    rw [len_of Sz1 Nn1]
    show Steps p.tables e below (s₁.setTop (mkF m 3 #[.val (.ref a1), .val (.ref x), .val (.ref a_DEFAULTCAPACITY_EMPTY_ELEMENTDATA), .val (.int (0 : Int32))] [(.int (0 : Int32)), (.int (0 : Int32))])) _
    refine XS.icmpNo X0.here hx rfl (hb hby d_jdk_38_method_24_3) rfl (by decide) ?_
    show Steps p.tables e below (s₁.setTop (mkF m 6 #[.val (.ref a1), .val (.ref x), .val (.ref a_DEFAULTCAPACITY_EMPTY_ELEMENTDATA), .val (.int (0 : Int32))] [])) _
    refine XS.aloadN X0.here hx rfl (hb hby d_jdk_38_method_24_6) rfl rfl ?_
    show Steps p.tables e below (s₁.setTop (mkF m 7 #[.val (.ref a1), .val (.ref x), .val (.ref a_DEFAULTCAPACITY_EMPTY_ELEMENTDATA), .val (.int (0 : Int32))] [(.ref a1)])) _
    refine st2.trans ?_
    show Steps p.tables e below (T2.setTop (mkF m 10 #[.val (.ref a1), .val (.ref x), .val (.ref a_DEFAULTCAPACITY_EMPTY_ELEMENTDATA), .val (.int (0 : Int32))] [(.ref b3)])) _
    refine XS.astoreN X2.here hx rfl (hb hby d_jdk_38_method_24_10) rfl rfl (l' := #[.val (.ref a1), .val (.ref x), .val (.ref b3), .val (.int (0 : Int32))]) rfl ?_
    show Steps p.tables e below (T2.setTop (mkF m 11 #[.val (.ref a1), .val (.ref x), .val (.ref b3), .val (.int (0 : Int32))] [])) _
    refine XS.aloadN X2.here hx rfl (hb hby d_jdk_38_method_24_11) rfl rfl ?_
    show Steps p.tables e below (T2.setTop (mkF m 12 #[.val (.ref a1), .val (.ref x), .val (.ref b3), .val (.int (0 : Int32))] [(.ref b3)])) _
    refine XS.iloadN X2.here hx rfl (hb hby d_jdk_38_method_24_12) rfl ?_
    show Steps p.tables e below (T2.setTop (mkF m 13 #[.val (.ref a1), .val (.ref x), .val (.ref b3), .val (.int (0 : Int32))] [(.int (0 : Int32)), (.ref b3)])) _
    refine XS.aloadN X2.here hx rfl (hb hby d_jdk_38_method_24_13) rfl rfl ?_
    show Steps p.tables e below (T2.setTop (mkF m 14 #[.val (.ref a1), .val (.ref x), .val (.ref b3), .val (.int (0 : Int32))] [(.ref x), (.int (0 : Int32)), (.ref b3)])) _
    refine st12 _ ?_
    show Steps p.tables e below (T12.setTop (mkF m 15 #[.val (.ref a1), .val (.ref x), .val (.ref b3), .val (.int (0 : Int32))] [])) _
    refine XS.aloadN X12.here hx rfl (hb hby d_jdk_38_method_24_15) rfl rfl ?_
    show Steps p.tables e below (T12.setTop (mkF m 16 #[.val (.ref a1), .val (.ref x), .val (.ref b3), .val (.int (0 : Int32))] [(.ref a1)])) _
    refine XS.iloadN X12.here hx rfl (hb hby d_jdk_38_method_24_16) rfl ?_
    show Steps p.tables e below (T12.setTop (mkF m 17 #[.val (.ref a1), .val (.ref x), .val (.ref b3), .val (.int (0 : Int32))] [(.int (0 : Int32)), (.ref a1)])) _
    refine XT.iconstV X12.here hx rfl (1 : Int32) (hb hby d_jdk_38_method_24_17) (by decide) ?_
    show Steps p.tables e below (T12.setTop (mkF m 18 #[.val (.ref a1), .val (.ref x), .val (.ref b3), .val (.int (0 : Int32))] [(.int (1 : Int32)), (.int (0 : Int32)), (.ref a1)])) _
    refine own_op_iadd X12.here hx rfl (hb hby d_jdk_38_method_24_18) rfl (z := (1 : Int32)) (by decide) ?_
    show Steps p.tables e below (T12.setTop (mkF m 19 #[.val (.ref a1), .val (.ref x), .val (.ref b3), .val (.int (0 : Int32))] [(.int (1 : Int32)), (.ref a1)])) _
    refine st16 _ ?_
    exact k_
  obtain ⟨fs, hr, hrun, hended, hW, hsame⟩ := X16.leave (v := none) (fun _ => rfl)
  refine ⟨_, _, S17 _ (X16.returnOut hx Bd.returns (hb hby d_jdk_38_method_24_22) hr), hrun, hended, _, _, rfl, ?_, ⟨_, rfl⟩, hW, hsame.mono (by decide) (by decide)⟩
  show Q_add3 Z a1 x u1 a_DEFAULTCAPACITY_EMPTY_ELEMENTDATA k_a_DEFAULTCAPACITY_EMPTY_ELEMENTDATA h0 n0 _ T16.heap _
  rw [e16]
  have f18 := (f14.wr W16)
  have f19 := ((p2_1.other W12 (Or.inl (by omega : (a1 : Nat) ≠ (b3 : Nat)))).other W16 (Or.inr (slot_ne (Or.inl (tw134 hw)) (Or.inl (tw169 hw)) (by decide) (t := .int) (t' := .int) (by decide) (by decide))))
  have f20 := ((p2_2.other W12 (Or.inl (by omega : (a1 : Nat) ≠ (b3 : Nat)))).other W16 (Or.inr (slot_ne (Or.inl (tw137 hw)) (Or.inl (tw169 hw)) (by decide) (t := (.array (.object "java/lang/Object"))) (t' := .int) (by decide) (by decide))))
  have f21 := (v12.other W16 (by omega : (b3 : Nat) ≠ (a1 : Nat)))
  have f22 := ((p2_5.wr W12).wr W16)
  exact ⟨b3, kb4, rfl, N16, K16, f18, f19, f20, fw16, f21, f22, (by omega)⟩
def Q_add1 (Z : State) (a1 : Nat) (x : Nat) (u1 : Int32) (a_DEFAULTCAPACITY_EMPTY_ELEMENTDATA : Nat) (k_a_DEFAULTCAPACITY_EMPTY_ELEMENTDATA : ClassId) (h0 : Heap) (n0 : Nat) (v : Option Value) (h : Heap) (L : List Loc) : Prop := ∃ (b : Nat), ∃ (kb : ClassId), v = some (.int (1 : Int32)) ∧ Fr n0 L ∧ Keep h0 h [a1] ∧ (Exa Z h a1 "java/util/ArrayList") ∧ (Fld Z h a1 "java/util/AbstractList" "modCount" "I" (.int (u1 + (1 : Int32)))) ∧ (Fld Z h a1 "java/util/ArrayList" "elementData" "[Ljava/lang/Object;" (.ref b)) ∧ (Fld Z h a1 "java/util/ArrayList" "size" "I" (.int (1 : Int32))) ∧ (Arv Z h b kb (.object "java/lang/Object") (10 : Int32) [(.ref x), .null, .null, .null, .null, .null, .null, .null, .null, .null] .null) ∧ (Exa Z h b "[Ljava/lang/Object;") ∧ (h0.size ≤ b)
theorem ef_add1 (m : MethodId) (a1 : Nat) (x : Nat) (u1 : Int32) (a_DEFAULTCAPACITY_EMPTY_ELEMENTDATA : Nat) (k_a_DEFAULTCAPACITY_EMPTY_ELEMENTDATA : ClassId) : entryFrame m #[(.ref a1), (.ref x)] 2 = (mkF m 0 #[.val (.ref a1), .val (.ref x)] []) := by first | (simp [entryFrame, mkF, argsToLocals, Value.category]; done) | rfl
set_option maxRecDepth 65536 in
set_option maxHeartbeats 40000000 in
theorem rm_add1 (l : Launch) (Z : State) (a0 : Array Value) (hw : ∀ d ∈ tables_1, d.before a0 Z = true) (ws : List Jvm.Cond) (a1 : Nat) (x : Nat) (u1 : Int32) (a_DEFAULTCAPACITY_EMPTY_ELEMENTDATA : Nat) (k_a_DEFAULTCAPACITY_EMPTY_ELEMENTDATA : ClassId) (h0 : Heap) (n0 : Nat) (Z0 : n0 ≤ h0.size) (O0 : Old Z n0 h0) (E1 : Exa Z h0 a1 "java/util/ArrayList") (Ex : Exa Z h0 x "java/lang/String") (F1 : Fld Z h0 a1 "java/util/AbstractList" "modCount" "I" (.int u1)) (F2 : Fld Z h0 a1 "java/util/ArrayList" "elementData" "[Ljava/lang/Object;" (.ref a_DEFAULTCAPACITY_EMPTY_ELEMENTDATA)) (F3 : Fld Z h0 a1 "java/util/ArrayList" "size" "I" (.int (0 : Int32))) (ga : n0 ≤ a1) (S_DEFAULTCAPACITY_EMPTY_ELEMENTDATA : Sta Z Z.heap "java/util/ArrayList" "DEFAULTCAPACITY_EMPTY_ELEMENTDATA" "[Ljava/lang/Object;" (.ref a_DEFAULTCAPACITY_EMPTY_ELEMENTDATA)) (E_a_DEFAULTCAPACITY_EMPTY_ELEMENTDATA : Exa Z Z.heap a_DEFAULTCAPACITY_EMPTY_ELEMENTDATA "[Ljava/lang/Object;") (A_a_DEFAULTCAPACITY_EMPTY_ELEMENTDATA : Arv Z Z.heap a_DEFAULTCAPACITY_EMPTY_ELEMENTDATA k_a_DEFAULTCAPACITY_EMPTY_ELEMENTDATA (.object "java/lang/Object") (0 : Int32) [] .null) :
    MetFree l (⟨"java/util/ArrayList", "add", "(Ljava/lang/Object;)Z"⟩ : MethodName) (head1 (Jvm.Cond.code (⟨"java/util/ArrayList", "add", "(Ljava/lang/Object;)Z"⟩ : MethodName) jdk_38_method_25_code 2 (some .boolean) :: ws) ({ frames := 4, cells := 1, slots := 10, locals := 56 } : Room)) (fun a_ U_ => a_ = #[(.ref a1), (.ref x)] ∧ Z.Warmed39 U_.vm ∧ U_.heap = h0) (fun _ _ _ _ _ => True) (fun _ U_ o_ U'_ => ∃ v_ L_, o_ = .returned v_ ∧ Q_add1 Z a1 x u1 a_DEFAULTCAPACITY_EMPTY_ELEMENTDATA k_a_DEFAULTCAPACITY_EMPTY_ELEMENTDATA h0 n0 v_ U'_.heap L_ ∧ FrameEnd U_ o_ U'_ L_ ({ frames := 4, cells := 1, slots := 10, locals := 56 } : Room).cells ({ frames := 4, cells := 1, slots := 10, locals := 56 } : Room).slots) := by
  refine MetFree.of_bodySF (plainFor_of_name pn7) hisR ?_
  intro p e s m args below meth c s₁ Bd hml0 hP hK
  obtain ⟨rfl, hZ, hh⟩ := hP
  have hx := Bd.exec
  have hby := Bd.bytes
  have hml : c.maxLocals = 2 := hml0
  have hown : s.vm.findClass "java/util/ArrayList" = some m.cls := findClass_of_methodNamed Bd.named
  have hnm := (name_of_methodNamed Bd.named Bd.method).1
  have X0 : Stand p l e ({ frames := 4, cells := 1, slots := 10, locals := 56 } : Room) s m #[(.ref a1), (.ref x)] below meth c s₁ [] 0 0 := Stand.of_body Bd
  have e0 : s₁.heap = h0 := by rw [← hh, Bd.state]; rfl
  have N0 := Fr.nil n0
  have oz : Z.heap.size = n0 := O0.1
  have S0 : ∀ t_, Steps p.tables e below (s₁.setTop (mkF m 0 #[.val (.ref a1), .val (.ref x)] [])) t_ → Steps p.tables e below (s₁.setTop (entryFrame m #[(.ref a1), (.ref x)] 2)) t_ := fun t_ k_ => castTop (ef_add1 m a1 x u1 a_DEFAULTCAPACITY_EMPTY_ELEMENTDATA k_a_DEFAULTCAPACITY_EMPTY_ELEMENTDATA) k_
  have K0 := Keep.refl h0 [a1]
  have lt_a1 : (a1 : Nat) < (h0.size : Nat) := E1.lt
  have lt_x : (x : Nat) < (h0.size : Nat) := Ex.lt
  have lt_a_DEFAULTCAPACITY_EMPTY_ELEMENTDATA : (a_DEFAULTCAPACITY_EMPTY_ELEMENTDATA : Nat) < (Z.heap.size : Nat) := E_a_DEFAULTCAPACITY_EMPTY_ELEMENTDATA.lt
  obtain ⟨T1, X1, e1, st1⟩ := getF X0 hx hZ hown (host := "") (Or.inl (tw176 hw)) (Via.of (tw177 hw)) e0 F1 (g := (mkF m 2 #[.val (.ref a1), .val (.ref x)] [(.ref a1), (.ref a1)])) rfl rfl (hb hby d_jdk_38_method_25_2)
  obtain ⟨T2, h2, X2, e2, W2, st2⟩ := putF X1 hx hZ hown (host := "") (Or.inl (tw176 hw)) (Via.of (tw177 hw)) e1 F1 E1 (Or.inl (tw134 hw)) (tw115 hw) (ty := .int) (by decide) rfl rfl (g := (mkF m 7 #[.val (.ref a1), .val (.ref x)] [(.int (u1 + (1 : Int32))), (.ref a1)])) rfl rfl (hb hby d_jdk_38_method_25_7)
  have z2 := W2.size
  have K2 := K0.wr W2 (Or.inl (by simp))
  have N2 := Fr.snoc X2 N0 (by omega)
  have O2 := O0.wr W2 (by omega)
  have fw2 := F1.same W2
  have f3 := (F2.other W2 (Or.inr (slot_ne (Or.inl (tw137 hw)) (Or.inl (tw134 hw)) (by decide) (t := (.array (.object "java/lang/Object"))) (t' := .int) (by decide) (by decide))))
  obtain ⟨T4, X4, e4, st4⟩ := getF X2 hx hZ hown (host := "") (Or.inl (tw136 hw)) Via.refl e2 f3 (g := (mkF m 13 #[.val (.ref a1), .val (.ref x)] [(.ref a1), (.ref x), (.ref a1)])) rfl rfl (hb hby d_jdk_38_method_25_13)
  have f5 := (F3.other W2 (Or.inr (slot_ne (Or.inl (tw169 hw)) (Or.inl (tw134 hw)) (by decide) (t := .int) (t' := .int) (by decide) (by decide))))
  obtain ⟨T6, X6, e6, st6⟩ := getF X4 hx hZ hown (host := "") (Or.inl (tw168 hw)) Via.refl e4 f5 (g := (mkF m 17 #[.val (.ref a1), .val (.ref x)] [(.ref a1), (.ref a_DEFAULTCAPACITY_EMPTY_ELEMENTDATA), (.ref x), (.ref a1)])) rfl rfl (hb hby d_jdk_38_method_25_17)
  have f7 := (E1.wr W2)
  have f8 := (Ex.wr W2)
  obtain ⟨cq9, q9, q9'⟩ := f7.cell
  obtain ⟨_, _, ⟨T9, L9, k9, n9⟩, -, X9, ⟨Lc9, hQ9, l9, y9, z9⟩, st9⟩ := X6.privateBack hx (y := (⟨"java/util/ArrayList", "add", "(Ljava/lang/Object;[Ljava/lang/Object;I)V"⟩ : MethodName)) hown (mvT hZ (tw178 hw)) (mvT hZ (tw179 hw)) (mvT hZ (tw181 hw)) (Cond.privateMethod_at (mvP hZ (tw180 hw) (args := #[]))) (mvT hZ (tw182 hw)) (by decide) (backOf (W := 0) (rm_add3 l Z a0 hw [] a1 x (u1 + (1 : Int32)) a_DEFAULTCAPACITY_EMPTY_ELEMENTDATA k_a_DEFAULTCAPACITY_EMPTY_ELEMENTDATA h2 n0 (by omega) O2 f7 f8 fw2 f3 f5 (by omega) S_DEFAULTCAPACITY_EMPTY_ELEMENTDATA E_a_DEFAULTCAPACITY_EMPTY_ELEMENTDATA A_a_DEFAULTCAPACITY_EMPTY_ELEMENTDATA) hZ (tw182 hw) (tw116 hw) (by decide) (by decide)) (g := (mkF m 20 #[.val (.ref a1), .val (.ref x)] [(.int (0 : Int32)), (.ref a_DEFAULTCAPACITY_EMPTY_ELEMENTDATA), (.ref x), (.ref a1)])) rfl (by rw [hml]; rfl) (Steps.refl _) (a := a1) (by rw [e6]; exact q9) q9' (argsL := [(.ref x), (.ref a_DEFAULTCAPACITY_EMPTY_ELEMENTDATA), (.int (0 : Int32))]) (rest := []) (lenOf pd8 rfl) rfl (by show 2 * 0 + _ ≤ _; exact Nat.le_of_eq rfl) (hb hby d_jdk_38_method_25_20) (fun _ _ => ⟨rfl, e6, (by decide : 0 + 1 ≤ _), (by decide : 0 + 10 ≤ _)⟩)
  dsimp only [Pt.U, Pt.locs, Pt.cells, Pt.slots] at X9 l9 y9 z9 st9 hQ9
  subst l9 y9 z9
  obtain ⟨b10, kb11, rfl, N9q, Kq9, p9_0, p9_1, p9_2, p9_3, p9_4, p9_5, p9_6⟩ := hQ9
  have N9 := Fr.app N2 N9q
  have z9 := Kq9.1
  have K9 := K2.trans Kq9 (allS (Or.inl (by simp)) all0)
  have O9 := O2.keep Kq9 (allS (by omega) all0)
  have lq12 : (a1 : Nat) < (T9.heap.size : Nat) := p9_0.lt
  have lq13 : (a1 : Nat) < (T9.heap.size : Nat) := p9_1.lt
  have lq14 : (a1 : Nat) < (T9.heap.size : Nat) := p9_2.lt
  have lq15 : (a1 : Nat) < (T9.heap.size : Nat) := p9_3.lt
  have lq16 : (b10 : Nat) < (T9.heap.size : Nat) := p9_4.lt
  have lq17 : (b10 : Nat) < (T9.heap.size : Nat) := p9_5.lt
  have bq9 := p9_6
  have S18 : ∀ t_, Steps p.tables e below (T9.setTop (mkF m 24 #[.val (.ref a1), .val (.ref x)] [(.int (1 : Int32))])) t_ → Steps p.tables e below (s₁.setTop (entryFrame m #[(.ref a1), (.ref x)] 2)) t_ := by
    intro t_ k_
    refine S0 t_ ?_
    show Steps p.tables e below (s₁.setTop (mkF m 0 #[.val (.ref a1), .val (.ref x)] [])) _
    refine XS.aloadN X0.here hx rfl (hb hby d_jdk_38_method_25_0) rfl rfl ?_
    show Steps p.tables e below (s₁.setTop (mkF m 1 #[.val (.ref a1), .val (.ref x)] [(.ref a1)])) _
    refine XS.dup X0.here hx rfl (hb hby d_jdk_38_method_25_1) rfl rfl ?_
    show Steps p.tables e below (s₁.setTop (mkF m 2 #[.val (.ref a1), .val (.ref x)] [(.ref a1), (.ref a1)])) _
    refine st1 _ ?_
    show Steps p.tables e below (T1.setTop (mkF m 5 #[.val (.ref a1), .val (.ref x)] [(.int u1), (.ref a1)])) _
    refine XT.iconstV X1.here hx rfl (1 : Int32) (hb hby d_jdk_38_method_25_5) (by decide) ?_
    show Steps p.tables e below (T1.setTop (mkF m 6 #[.val (.ref a1), .val (.ref x)] [(.int (1 : Int32)), (.int u1), (.ref a1)])) _
    refine own_op_iadd X1.here hx rfl (hb hby d_jdk_38_method_25_6) rfl (z := (u1 + (1 : Int32))) rfl ?_
    show Steps p.tables e below (T1.setTop (mkF m 7 #[.val (.ref a1), .val (.ref x)] [(.int (u1 + (1 : Int32))), (.ref a1)])) _
    refine st2 _ ?_
    show Steps p.tables e below (T2.setTop (mkF m 10 #[.val (.ref a1), .val (.ref x)] [])) _
    refine XS.aloadN X2.here hx rfl (hb hby d_jdk_38_method_25_10) rfl rfl ?_
    show Steps p.tables e below (T2.setTop (mkF m 11 #[.val (.ref a1), .val (.ref x)] [(.ref a1)])) _
    refine XS.aloadN X2.here hx rfl (hb hby d_jdk_38_method_25_11) rfl rfl ?_
    show Steps p.tables e below (T2.setTop (mkF m 12 #[.val (.ref a1), .val (.ref x)] [(.ref x), (.ref a1)])) _
    refine XS.aloadN X2.here hx rfl (hb hby d_jdk_38_method_25_12) rfl rfl ?_
    show Steps p.tables e below (T2.setTop (mkF m 13 #[.val (.ref a1), .val (.ref x)] [(.ref a1), (.ref x), (.ref a1)])) _
    refine st4 _ ?_
    show Steps p.tables e below (T4.setTop (mkF m 16 #[.val (.ref a1), .val (.ref x)] [(.ref a_DEFAULTCAPACITY_EMPTY_ELEMENTDATA), (.ref x), (.ref a1)])) _
    refine XS.aloadN X4.here hx rfl (hb hby d_jdk_38_method_25_16) rfl rfl ?_
    show Steps p.tables e below (T4.setTop (mkF m 17 #[.val (.ref a1), .val (.ref x)] [(.ref a1), (.ref a_DEFAULTCAPACITY_EMPTY_ELEMENTDATA), (.ref x), (.ref a1)])) _
    refine st6 _ ?_
    show Steps p.tables e below (T6.setTop (mkF m 20 #[.val (.ref a1), .val (.ref x)] [(.int (0 : Int32)), (.ref a_DEFAULTCAPACITY_EMPTY_ELEMENTDATA), (.ref x), (.ref a1)])) _
    refine st9.trans ?_
    show Steps p.tables e below (T9.setTop (mkF m 23 #[.val (.ref a1), .val (.ref x)] [])) _
    refine XT.iconstV X9.here hx rfl (1 : Int32) (hb hby d_jdk_38_method_25_23) (by decide) ?_
    exact k_
  obtain ⟨fs, hr, hrun, hended, hW, hsame⟩ := X9.leave (v := (some (.int (1 : Int32)))) (fun h => by rw [Bd.returns] at h; cases h)
  refine ⟨_, _, S18 _ ((retN X9 hx (t := .boolean) Bd.returns (by simp) (hb hby d_jdk_38_method_25_24) hr)), hrun, hended, _, _, rfl, ?_, ⟨_, rfl⟩, hW, hsame.mono (by decide) (by decide)⟩
  show Q_add1 Z a1 x u1 a_DEFAULTCAPACITY_EMPTY_ELEMENTDATA k_a_DEFAULTCAPACITY_EMPTY_ELEMENTDATA h0 n0 _ T9.heap _
  exact ⟨b10, kb11, rfl, N9, K9, p9_0, p9_1, p9_2, p9_3, p9_4, p9_5, (by omega)⟩
def Q_ie0 (Z : State) (a1 : Nat) (h0 : Heap) (n0 : Nat) (v : Option Value) (h : Heap) (L : List Loc) : Prop := v = some (.int (1 : Int32)) ∧ Fr n0 L ∧ h = h0
theorem ef_ie0 (m : MethodId) (a1 : Nat) : entryFrame m #[(.ref a1)] 1 = (mkF m 0 #[.val (.ref a1)] []) := by first | (simp [entryFrame, mkF, argsToLocals, Value.category]; done) | rfl
set_option maxRecDepth 65536 in
set_option maxHeartbeats 40000000 in
theorem rm_ie0 (l : Launch) (Z : State) (a0 : Array Value) (hw : ∀ d ∈ tables_1, d.before a0 Z = true) (ws : List Jvm.Cond) (a1 : Nat) (h0 : Heap) (n0 : Nat) (Z0 : n0 ≤ h0.size) (O0 : Old Z n0 h0) (F3 : Fld Z h0 a1 "java/util/ArrayList" "size" "I" (.int (0 : Int32))) :
    MetFree l (⟨"java/util/ArrayList", "isEmpty", "()Z"⟩ : MethodName) (head1 (Jvm.Cond.code (⟨"java/util/ArrayList", "isEmpty", "()Z"⟩ : MethodName) jdk_38_method_9_code 1 (some .boolean) :: ws) ({ frames := 0, cells := 0, slots := 0, locals := 0 } : Room)) (fun a_ U_ => a_ = #[(.ref a1)] ∧ Z.Warmed39 U_.vm ∧ U_.heap = h0) (fun _ _ _ _ _ => True) (fun _ U_ o_ U'_ => ∃ v_ L_, o_ = .returned v_ ∧ Q_ie0 Z a1 h0 n0 v_ U'_.heap L_ ∧ FrameEnd U_ o_ U'_ L_ ({ frames := 0, cells := 0, slots := 0, locals := 0 } : Room).cells ({ frames := 0, cells := 0, slots := 0, locals := 0 } : Room).slots) := by
  refine MetFree.of_bodySF (plainFor_of_name pn7) hisR ?_
  intro p e s m args below meth c s₁ Bd hml0 hP hK
  obtain ⟨rfl, hZ, hh⟩ := hP
  have hx := Bd.exec
  have hby := Bd.bytes
  have hml : c.maxLocals = 1 := hml0
  have hown : s.vm.findClass "java/util/ArrayList" = some m.cls := findClass_of_methodNamed Bd.named
  have hnm := (name_of_methodNamed Bd.named Bd.method).1
  have X0 : Stand p l e ({ frames := 0, cells := 0, slots := 0, locals := 0 } : Room) s m #[(.ref a1)] below meth c s₁ [] 0 0 := Stand.of_body Bd
  have e0 : s₁.heap = h0 := by rw [← hh, Bd.state]; rfl
  have N0 := Fr.nil n0
  have oz : Z.heap.size = n0 := O0.1
  have S0 : ∀ t_, Steps p.tables e below (s₁.setTop (mkF m 0 #[.val (.ref a1)] [])) t_ → Steps p.tables e below (s₁.setTop (entryFrame m #[(.ref a1)] 1)) t_ := fun t_ k_ => castTop (ef_ie0 m a1) k_
  have lt_a1 : (a1 : Nat) < (h0.size : Nat) := F3.lt
  obtain ⟨T1, X1, e1, st1⟩ := getF X0 hx hZ hown (host := "") (Or.inl (tw168 hw)) Via.refl e0 F3 (g := (mkF m 1 #[.val (.ref a1)] [(.ref a1)])) rfl rfl (hb hby d_jdk_38_method_9_1)
  have S2 : ∀ t_, Steps p.tables e below (T1.setTop (mkF m 12 #[.val (.ref a1)] [(.int (1 : Int32))])) t_ → Steps p.tables e below (s₁.setTop (entryFrame m #[(.ref a1)] 1)) t_ := by
    intro t_ k_
    refine S0 t_ ?_
    show Steps p.tables e below (s₁.setTop (mkF m 0 #[.val (.ref a1)] [])) _
    refine XS.aloadN X0.here hx rfl (hb hby d_jdk_38_method_9_0) rfl rfl ?_
    show Steps p.tables e below (s₁.setTop (mkF m 1 #[.val (.ref a1)] [(.ref a1)])) _
    refine st1 _ ?_
    show Steps p.tables e below (T1.setTop (mkF m 4 #[.val (.ref a1)] [(.int (0 : Int32))])) _
    refine XS.ifNo X1.here hx rfl (hb hby d_jdk_38_method_9_4) rfl (by decide) ?_
    show Steps p.tables e below (T1.setTop (mkF m 7 #[.val (.ref a1)] [])) _
    refine XT.iconstV X1.here hx rfl (1 : Int32) (hb hby d_jdk_38_method_9_7) (by decide) ?_
    show Steps p.tables e below (T1.setTop (mkF m 8 #[.val (.ref a1)] [(.int (1 : Int32))])) _
    refine XS.goto X1.here hx rfl (pc0 := 8) (pc' := 12) rfl (hb hby d_jdk_38_method_9_8) (by decide) (by decide) ?_
    exact k_
  obtain ⟨fs, hr, hrun, hended, hW, hsame⟩ := X1.leave (v := (some (.int (1 : Int32)))) (fun h => by rw [Bd.returns] at h; cases h)
  refine ⟨_, _, S2 _ ((retN X1 hx (t := .boolean) Bd.returns (by simp) (hb hby d_jdk_38_method_9_12) hr)), hrun, hended, _, _, rfl, ?_, ⟨_, rfl⟩, hW, hsame.mono (by decide) (by decide)⟩
  show Q_ie0 Z a1 h0 n0 _ T1.heap _
  rw [e1]
  exact ⟨rfl, N0, rfl⟩
def Q_ie1 (Z : State) (a1 : Nat) (h0 : Heap) (n0 : Nat) (v : Option Value) (h : Heap) (L : List Loc) : Prop := v = some (.int (0 : Int32)) ∧ Fr n0 L ∧ h = h0
theorem ef_ie1 (m : MethodId) (a1 : Nat) : entryFrame m #[(.ref a1)] 1 = (mkF m 0 #[.val (.ref a1)] []) := by first | (simp [entryFrame, mkF, argsToLocals, Value.category]; done) | rfl
set_option maxRecDepth 65536 in
set_option maxHeartbeats 40000000 in
theorem rm_ie1 (l : Launch) (Z : State) (a0 : Array Value) (hw : ∀ d ∈ tables_1, d.before a0 Z = true) (ws : List Jvm.Cond) (a1 : Nat) (h0 : Heap) (n0 : Nat) (Z0 : n0 ≤ h0.size) (O0 : Old Z n0 h0) (F3 : Fld Z h0 a1 "java/util/ArrayList" "size" "I" (.int (1 : Int32))) :
    MetFree l (⟨"java/util/ArrayList", "isEmpty", "()Z"⟩ : MethodName) (head1 (Jvm.Cond.code (⟨"java/util/ArrayList", "isEmpty", "()Z"⟩ : MethodName) jdk_38_method_9_code 1 (some .boolean) :: ws) ({ frames := 0, cells := 0, slots := 0, locals := 0 } : Room)) (fun a_ U_ => a_ = #[(.ref a1)] ∧ Z.Warmed39 U_.vm ∧ U_.heap = h0) (fun _ _ _ _ _ => True) (fun _ U_ o_ U'_ => ∃ v_ L_, o_ = .returned v_ ∧ Q_ie1 Z a1 h0 n0 v_ U'_.heap L_ ∧ FrameEnd U_ o_ U'_ L_ ({ frames := 0, cells := 0, slots := 0, locals := 0 } : Room).cells ({ frames := 0, cells := 0, slots := 0, locals := 0 } : Room).slots) := by
  refine MetFree.of_bodySF (plainFor_of_name pn7) hisR ?_
  intro p e s m args below meth c s₁ Bd hml0 hP hK
  obtain ⟨rfl, hZ, hh⟩ := hP
  have hx := Bd.exec
  have hby := Bd.bytes
  have hml : c.maxLocals = 1 := hml0
  have hown : s.vm.findClass "java/util/ArrayList" = some m.cls := findClass_of_methodNamed Bd.named
  have hnm := (name_of_methodNamed Bd.named Bd.method).1
  have X0 : Stand p l e ({ frames := 0, cells := 0, slots := 0, locals := 0 } : Room) s m #[(.ref a1)] below meth c s₁ [] 0 0 := Stand.of_body Bd
  have e0 : s₁.heap = h0 := by rw [← hh, Bd.state]; rfl
  have N0 := Fr.nil n0
  have oz : Z.heap.size = n0 := O0.1
  have S0 : ∀ t_, Steps p.tables e below (s₁.setTop (mkF m 0 #[.val (.ref a1)] [])) t_ → Steps p.tables e below (s₁.setTop (entryFrame m #[(.ref a1)] 1)) t_ := fun t_ k_ => castTop (ef_ie1 m a1) k_
  have lt_a1 : (a1 : Nat) < (h0.size : Nat) := F3.lt
  obtain ⟨T1, X1, e1, st1⟩ := getF X0 hx hZ hown (host := "") (Or.inl (tw168 hw)) Via.refl e0 F3 (g := (mkF m 1 #[.val (.ref a1)] [(.ref a1)])) rfl rfl (hb hby d_jdk_38_method_9_1)
  have S2 : ∀ t_, Steps p.tables e below (T1.setTop (mkF m 12 #[.val (.ref a1)] [(.int (0 : Int32))])) t_ → Steps p.tables e below (s₁.setTop (entryFrame m #[(.ref a1)] 1)) t_ := by
    intro t_ k_
    refine S0 t_ ?_
    show Steps p.tables e below (s₁.setTop (mkF m 0 #[.val (.ref a1)] [])) _
    refine XS.aloadN X0.here hx rfl (hb hby d_jdk_38_method_9_0) rfl rfl ?_
    show Steps p.tables e below (s₁.setTop (mkF m 1 #[.val (.ref a1)] [(.ref a1)])) _
    refine st1 _ ?_
    show Steps p.tables e below (T1.setTop (mkF m 4 #[.val (.ref a1)] [(.int (1 : Int32))])) _
    refine XS.ifYes X1.here hx rfl (pc0 := 4) (pc' := 11) rfl (hb hby d_jdk_38_method_9_4) rfl (by decide) (by decide) (by decide) ?_
    show Steps p.tables e below (T1.setTop (mkF m 11 #[.val (.ref a1)] [])) _
    refine XT.iconstV X1.here hx rfl (0 : Int32) (hb hby d_jdk_38_method_9_11) (by decide) ?_
    exact k_
  obtain ⟨fs, hr, hrun, hended, hW, hsame⟩ := X1.leave (v := (some (.int (0 : Int32)))) (fun h => by rw [Bd.returns] at h; cases h)
  refine ⟨_, _, S2 _ ((retN X1 hx (t := .boolean) Bd.returns (by simp) (hb hby d_jdk_38_method_9_12) hr)), hrun, hended, _, _, rfl, ?_, ⟨_, rfl⟩, hW, hsame.mono (by decide) (by decide)⟩
  show Q_ie1 Z a1 h0 n0 _ T1.heap _
  rw [e1]
  exact ⟨rfl, N0, rfl⟩
def Q_mmin (Z : State)  (h0 : Heap) (n0 : Nat) (v : Option Value) (h : Heap) (L : List Loc) : Prop := v = some (.int (1 : Int32)) ∧ Fr n0 L ∧ h = h0
theorem ef_mmin (m : MethodId)  : entryFrame m #[(.int (10 : Int32)), (.int (1 : Int32))] 2 = (mkF m 0 #[.val (.int (10 : Int32)), .val (.int (1 : Int32))] []) := by first | (simp [entryFrame, mkF, argsToLocals, Value.category]; done) | rfl
set_option maxRecDepth 65536 in
set_option maxHeartbeats 40000000 in
theorem rm_mmin (l : Launch) (Z : State) (a0 : Array Value) (hw : ∀ d ∈ tables_1, d.before a0 Z = true) (ws : List Jvm.Cond)  (h0 : Heap) (n0 : Nat) (Z0 : n0 ≤ h0.size) (O0 : Old Z n0 h0)  :
    MetFree l (⟨"java/lang/Math", "min", "(II)I"⟩ : MethodName) (head1 (Jvm.Cond.code (⟨"java/lang/Math", "min", "(II)I"⟩ : MethodName) jdk_29_method_69_code 2 (some .int) :: ws) ({ frames := 0, cells := 0, slots := 0, locals := 0 } : Room)) (fun a_ U_ => a_ = #[(.int (10 : Int32)), (.int (1 : Int32))] ∧ Z.Warmed39 U_.vm ∧ U_.heap = h0) (fun _ _ _ _ _ => True) (fun _ U_ o_ U'_ => ∃ v_ L_, o_ = .returned v_ ∧ Q_mmin Z  h0 n0 v_ U'_.heap L_ ∧ FrameEnd U_ o_ U'_ L_ ({ frames := 0, cells := 0, slots := 0, locals := 0 } : Room).cells ({ frames := 0, cells := 0, slots := 0, locals := 0 } : Room).slots) := by
  refine MetFree.of_bodySF (Jvm.Free.JP.mathPlain rfl (by decide +kernel)) hisR ?_
  intro p e s m args below meth c s₁ Bd hml0 hP hK
  obtain ⟨rfl, hZ, hh⟩ := hP
  have hx := Bd.exec
  have hby := Bd.bytes
  have hml : c.maxLocals = 2 := hml0
  have hown : s.vm.findClass "java/lang/Math" = some m.cls := findClass_of_methodNamed Bd.named
  have hnm := (name_of_methodNamed Bd.named Bd.method).1
  have X0 : Stand p l e ({ frames := 0, cells := 0, slots := 0, locals := 0 } : Room) s m #[(.int (10 : Int32)), (.int (1 : Int32))] below meth c s₁ [] 0 0 := Stand.of_body Bd
  have e0 : s₁.heap = h0 := by rw [← hh, Bd.state]; rfl
  have N0 := Fr.nil n0
  have oz : Z.heap.size = n0 := O0.1
  have S0 : ∀ t_, Steps p.tables e below (s₁.setTop (mkF m 0 #[.val (.int (10 : Int32)), .val (.int (1 : Int32))] [])) t_ → Steps p.tables e below (s₁.setTop (entryFrame m #[(.int (10 : Int32)), (.int (1 : Int32))] 2)) t_ := fun t_ k_ => castTop (ef_mmin m ) k_
  have S1 : ∀ t_, Steps p.tables e below (s₁.setTop (mkF m 10 #[.val (.int (10 : Int32)), .val (.int (1 : Int32))] [(.int (1 : Int32))])) t_ → Steps p.tables e below (s₁.setTop (entryFrame m #[(.int (10 : Int32)), (.int (1 : Int32))] 2)) t_ := by
    intro t_ k_
    refine S0 t_ ?_
    show Steps p.tables e below (s₁.setTop (mkF m 0 #[.val (.int (10 : Int32)), .val (.int (1 : Int32))] [])) _
    refine XS.iloadN X0.here hx rfl (hb hby d_jdk_29_method_69_0) rfl ?_
    show Steps p.tables e below (s₁.setTop (mkF m 1 #[.val (.int (10 : Int32)), .val (.int (1 : Int32))] [(.int (10 : Int32))])) _
    refine XS.iloadN X0.here hx rfl (hb hby d_jdk_29_method_69_1) rfl ?_
    show Steps p.tables e below (s₁.setTop (mkF m 2 #[.val (.int (10 : Int32)), .val (.int (1 : Int32))] [(.int (1 : Int32)), (.int (10 : Int32))])) _
    refine XS.icmpYes X0.here hx rfl (pc0 := 2) (pc' := 9) rfl (hb hby d_jdk_29_method_69_2) rfl (by decide) (by decide) (by decide) ?_
    show Steps p.tables e below (s₁.setTop (mkF m 9 #[.val (.int (10 : Int32)), .val (.int (1 : Int32))] [])) _
    refine XS.iloadN X0.here hx rfl (hb hby d_jdk_29_method_69_9) rfl ?_
    exact k_
  obtain ⟨fs, hr, hrun, hended, hW, hsame⟩ := X0.leave (v := (some (.int (1 : Int32)))) (fun h => by rw [Bd.returns] at h; cases h)
  refine ⟨_, _, S1 _ ((own_retI X0 hx Bd.returns (hb hby d_jdk_29_method_69_10) hr)), hrun, hended, _, _, rfl, ?_, ⟨_, rfl⟩, hW, hsame.mono (by decide) (by decide)⟩
  show Q_mmin Z  h0 n0 _ s₁.heap _
  rw [e0]
  exact ⟨rfl, N0, rfl⟩
def Q_cp3 (Z : State) (b : Nat) (x : Nat) (kb : ClassId) (mO : Nat) (h0 : Heap) (n0 : Nat) (v : Option Value) (h : Heap) (L : List Loc) : Prop := ∃ (t : Nat), ∃ (kt : ClassId), v = some (.ref t) ∧ Fr n0 L ∧ Keep h0 h [] ∧ (Arv Z h t kt (.object "java/lang/Object") (1 : Int32) [(.ref x)] .null) ∧ (h0.size ≤ t)
theorem ef_cp3 (m : MethodId) (b : Nat) (x : Nat) (kb : ClassId) (mO : Nat) : entryFrame m #[(.ref b), (.int (1 : Int32)), (.ref mO)] 4 = (mkF m 0 #[.val (.ref b), .val (.int (1 : Int32)), .val (.ref mO), .unset] []) := by first | (simp [entryFrame, mkF, argsToLocals, Value.category]; done) | rfl
set_option maxRecDepth 65536 in
set_option maxHeartbeats 40000000 in
theorem rm_cp3 (l : Launch) (Z : State) (a0 : Array Value) (hw : ∀ d ∈ tables_1, d.before a0 Z = true) (ws : List Jvm.Cond) (b : Nat) (x : Nat) (kb : ClassId) (mO : Nat) (h0 : Heap) (n0 : Nat) (Z0 : n0 ≤ h0.size) (O0 : Old Z n0 h0) (A1 : Arv Z h0 b kb (.object "java/lang/Object") (10 : Int32) [(.ref x), .null, .null, .null, .null, .null, .null, .null, .null, .null] .null) (Eb : Exa Z h0 b "[Ljava/lang/Object;") (Ex : Exa Z h0 x "java/lang/String") (hmir : own_Mir Z "[Ljava/lang/Object;" mO) :
    MetFree l (⟨"java/util/Arrays", "copyOf", "([Ljava/lang/Object;ILjava/lang/Class;)[Ljava/lang/Object;"⟩ : MethodName) (head1 (Jvm.Cond.code (⟨"java/util/Arrays", "copyOf", "([Ljava/lang/Object;ILjava/lang/Class;)[Ljava/lang/Object;"⟩ : MethodName) jdk_65_method_120_code 4 (some (.array (.object "java/lang/Object"))) :: ws) ({ frames := 1, cells := 1, slots := 1, locals := 40 } : Room)) (fun a_ U_ => a_ = #[(.ref b), (.int (1 : Int32)), (.ref mO)] ∧ Z.Warmed39 U_.vm ∧ U_.heap = h0) (fun _ _ _ _ _ => True) (fun _ U_ o_ U'_ => ∃ v_ L_, o_ = .returned v_ ∧ Q_cp3 Z b x kb mO h0 n0 v_ U'_.heap L_ ∧ FrameEnd U_ o_ U'_ L_ ({ frames := 1, cells := 1, slots := 1, locals := 40 } : Room).cells ({ frames := 1, cells := 1, slots := 1, locals := 40 } : Room).slots) := by
  refine MetFree.of_bodySF (plainFor_of_name pn8) hisR ?_
  intro p e s m args below meth c s₁ Bd hml0 hP hK
  obtain ⟨rfl, hZ, hh⟩ := hP
  have hx := Bd.exec
  have hby := Bd.bytes
  have hml : c.maxLocals = 4 := hml0
  have hown : s.vm.findClass "java/util/Arrays" = some m.cls := findClass_of_methodNamed Bd.named
  have hnm := (name_of_methodNamed Bd.named Bd.method).1
  have X0 : Stand p l e ({ frames := 1, cells := 1, slots := 1, locals := 40 } : Room) s m #[(.ref b), (.int (1 : Int32)), (.ref mO)] below meth c s₁ [] 0 0 := Stand.of_body Bd
  have e0 : s₁.heap = h0 := by rw [← hh, Bd.state]; rfl
  have N0 := Fr.nil n0
  have oz : Z.heap.size = n0 := O0.1
  have S0 : ∀ t_, Steps p.tables e below (s₁.setTop (mkF m 0 #[.val (.ref b), .val (.int (1 : Int32)), .val (.ref mO), .unset] [])) t_ → Steps p.tables e below (s₁.setTop (entryFrame m #[(.ref b), (.int (1 : Int32)), (.ref mO)] 4)) t_ := fun t_ k_ => castTop (ef_cp3 m b x kb mO) k_
  have K0 := Keep.refl h0 []
  have lt_b : (b : Nat) < (h0.size : Nat) := A1.lt
  have lt_x : (x : Nat) < (h0.size : Nat) := Ex.lt
  obtain ⟨T1, X1, e1, st1⟩ := own_ldcM X0 hx hZ hown (tw221 hw) e0 hmir (g := (mkF m 1 #[.val (.ref b), .val (.int (1 : Int32)), .val (.ref mO), .unset] [(.ref mO)])) rfl (hb hby d_jdk_65_method_120_1)
  obtain ⟨T2, h2, k2, X2, e2, E2, A2, B2, V2, st2⟩ := newRE X1 hx hZ hown (tw222 hw) (tw198 hw) e1 (g := (mkF m 7 #[.val (.ref b), .val (.int (1 : Int32)), .val (.ref mO), .unset] [(.int (1 : Int32))])) rfl (hb hby d_jdk_65_method_120_7) rfl (by decide) (cap := 1) (by decide) (by decide) (by decide) (by decide) (ad := "[Ljava/lang/Object;") (by decide)
  obtain ⟨b2, g2⟩ : ∃ z, z = h0.size := ⟨_, rfl⟩
  rw [← g2] at A2 B2 st2
  have lb2 : (b2 : Nat) < (h2.size : Nat) := A2.lt
  have v2 : Arv Z h2 b2 k2 (.object "java/lang/Object") (1 : Int32) [.null] .null := (Arv.new A2 (by decide)).pad (pad_rep [] .null 1)
  have z2 := E2.1
  have K2 := K0.ext E2
  have O2 := O0.ext E2
  have f3 := (A1.ext E2)
  obtain ⟨cl4, Ar4, q4, Sz4, Nn4, H4, G4⟩ := id f3
  obtain ⟨_, _, ⟨T5, L5, k5, n5⟩, -, X5, ⟨Lc5, hQ5, l5, y5, z5⟩, st5⟩ := Jvm.LawKit.callS X2 hx (y := (⟨"java/lang/Math", "min", "(II)I"⟩ : MethodName)) hown (mvT hZ (tw223 hw)) (mvT hZ (tw224 hw)) (mvT hZ (tw195 hw)) (mvT hZ (tw225 hw)) (by decide) (backOf (W := 4) (rm_mmin l Z a0 hw []  h2 n0 (by omega) O2 ) hZ (tw225 hw) (tw195 hw) (by decide) (by decide)) (g := (mkF m 32 #[.val (.ref b), .val (.int (1 : Int32)), .val (.ref mO), .val (.ref b2)] [(.int (1 : Int32)), (.int (10 : Int32)), (.int (0 : Int32)), (.ref b2), (.int (0 : Int32)), (.ref b)])) rfl (by rw [hml]; rfl) (argsL := [(.int (10 : Int32)), (.int (1 : Int32))]) (rest := [(.int (0 : Int32)), (.ref b2), (.int (0 : Int32)), (.ref b)]) (lenOf pd5 rfl) rfl (by show 2 * 0 + _ ≤ _; exact Nat.le_of_eq rfl) (hb hby d_jdk_65_method_120_32) (fun _ _ => ⟨rfl, e2, (by decide : 1 + 0 ≤ _), (by decide : 1 + 0 ≤ _)⟩)
  dsimp only [Pt.U, Pt.locs, Pt.cells, Pt.slots] at X5 l5 y5 z5 st5 hQ5
  subst l5 y5 z5
  obtain ⟨rfl, N5q, Kq5⟩ := hQ5
  have N5 := Fr.app N0 N5q
  obtain ⟨cl7, Ar7, q7, Sz7, Nn7, H7, G7⟩ := id v2
  have f8 := (Ex.ext E2)
  obtain ⟨T6, h6, Lc6, X6, e6, N6, Kq6, B6, st6⟩ := cpA X5 hx hZ hown (tw226 hw) (tw229 hw) (tw227 hw) (tw228 hw) Kq5 f3 v2 (Or.inr ⟨rfl, rfl, (⟨(Sto.ofV Ar7 q7 V2 (Ins.of_exa f8 (tw199 hw))), trivial⟩ : StoL Z h2 b2 [(.ref x)])⟩) (us := [(.ref x)]) (by decide) (by decide) (by decide) (by decide) (by decide) rfl (by decide) N5 (by omega) (g := (mkF m 35 #[.val (.ref b), .val (.int (1 : Int32)), .val (.ref mO), .val (.ref b2)] [(.int (1 : Int32)), (.int (0 : Int32)), (.ref b2), (.int (0 : Int32)), (.ref b)])) rfl (by rw [hml]; rfl) rfl (hb hby d_jdk_65_method_120_35) (by decide) (W := 0) (by show 2 * 0 + _ ≤ _; exact Nat.le_of_eq rfl) (by decide)
  have z6 := Kq6.1
  have K6 := K2.trans Kq6 (allS (Or.inr (by omega)) all0)
  have O6 := O2.keep Kq6 (allS (by omega) all0)
  have v6 : Arv Z h6 b2 k2 (.object "java/lang/Object") (1 : Int32) [(.ref x)] .null := B6
  have S9 : ∀ t_, Steps p.tables e below (T6.setTop (mkF m 39 #[.val (.ref b), .val (.int (1 : Int32)), .val (.ref mO), .val (.ref b2)] [(.ref b2)])) t_ → Steps p.tables e below (s₁.setTop (entryFrame m #[(.ref b), (.int (1 : Int32)), (.ref mO)] 4)) t_ := by
    intro t_ k_
    refine S0 t_ ?_
    show Steps p.tables e below (s₁.setTop (mkF m 0 #[.val (.ref b), .val (.int (1 : Int32)), .val (.ref mO), .unset] [])) _
    refine XS.aloadN X0.here hx rfl (hb hby d_jdk_65_method_120_0) rfl rfl ?_
    show Steps p.tables e below (s₁.setTop (mkF m 1 #[.val (.ref b), .val (.int (1 : Int32)), .val (.ref mO), .unset] [(.ref mO)])) _
    refine st1 _ ?_
    show Steps p.tables e below (T1.setTop (mkF m 3 #[.val (.ref b), .val (.int (1 : Int32)), .val (.ref mO), .unset] [(.ref mO), (.ref mO)])) _
    refine Jvm.RoadKit.acmp (g := (mkF m 3 #[.val (.ref b), .val (.int (1 : Int32)), .val (.ref mO), .unset] [(.ref mO), (.ref mO)])) X1 hx rfl rfl rfl (pc0 := 3) (pc' := 6) (same := true) rfl (hb hby d_jdk_65_method_120_3) rfl (decide_eq_true rfl) (by decide) (by decide) ?_
    show Steps p.tables e below (T1.setTop (mkF m 6 #[.val (.ref b), .val (.int (1 : Int32)), .val (.ref mO), .unset] [])) _
    refine XS.iloadN X1.here hx rfl (hb hby d_jdk_65_method_120_6) rfl ?_
    show Steps p.tables e below (T1.setTop (mkF m 7 #[.val (.ref b), .val (.int (1 : Int32)), .val (.ref mO), .unset] [(.int (1 : Int32))])) _
    refine st2 _ ?_
    show Steps p.tables e below (T2.setTop (mkF m 10 #[.val (.ref b), .val (.int (1 : Int32)), .val (.ref mO), .unset] [(.ref b2)])) _
    refine XS.goto X2.here hx rfl (pc0 := 10) (pc' := 24) rfl (hb hby d_jdk_65_method_120_10) (by decide) (by decide) ?_
    show Steps p.tables e below (T2.setTop (mkF m 24 #[.val (.ref b), .val (.int (1 : Int32)), .val (.ref mO), .unset] [(.ref b2)])) _
    refine XS.astoreN X2.here hx rfl (hb hby d_jdk_65_method_120_24) rfl rfl (l' := #[.val (.ref b), .val (.int (1 : Int32)), .val (.ref mO), .val (.ref b2)]) rfl ?_
    show Steps p.tables e below (T2.setTop (mkF m 25 #[.val (.ref b), .val (.int (1 : Int32)), .val (.ref mO), .val (.ref b2)] [])) _
    refine XS.aloadN X2.here hx rfl (hb hby d_jdk_65_method_120_25) rfl rfl ?_
    show Steps p.tables e below (T2.setTop (mkF m 26 #[.val (.ref b), .val (.int (1 : Int32)), .val (.ref mO), .val (.ref b2)] [(.ref b)])) _
    refine XT.iconstV X2.here hx rfl (0 : Int32) (hb hby d_jdk_65_method_120_26) (by decide) ?_
    show Steps p.tables e below (T2.setTop (mkF m 27 #[.val (.ref b), .val (.int (1 : Int32)), .val (.ref mO), .val (.ref b2)] [(.int (0 : Int32)), (.ref b)])) _
    refine XS.aloadN X2.here hx rfl (hb hby d_jdk_65_method_120_27) rfl rfl ?_
    show Steps p.tables e below (T2.setTop (mkF m 28 #[.val (.ref b), .val (.int (1 : Int32)), .val (.ref mO), .val (.ref b2)] [(.ref b2), (.int (0 : Int32)), (.ref b)])) _
    refine XT.iconstV X2.here hx rfl (0 : Int32) (hb hby d_jdk_65_method_120_28) (by decide) ?_
    show Steps p.tables e below (T2.setTop (mkF m 29 #[.val (.ref b), .val (.int (1 : Int32)), .val (.ref mO), .val (.ref b2)] [(.int (0 : Int32)), (.ref b2), (.int (0 : Int32)), (.ref b)])) _
    refine XS.aloadN X2.here hx rfl (hb hby d_jdk_65_method_120_29) rfl rfl ?_
    show Steps p.tables e below (T2.setTop (mkF m 30 #[.val (.ref b), .val (.int (1 : Int32)), .val (.ref mO), .val (.ref b2)] [(.ref b), (.int (0 : Int32)), (.ref b2), (.int (0 : Int32)), (.ref b)])) _
    refine X2.arraylength hx (by rw [e2]; exact Ar4.1) (State.isArrayOf_alike hZ.alike Ar4.2.1) (g := (mkF m 30 #[.val (.ref b), .val (.int (1 : Int32)), .val (.ref mO), .val (.ref b2)] [(.ref b), (.int (0 : Int32)), (.ref b2), (.int (0 : Int32)), (.ref b)])) rfl rfl (hb hby d_jdk_65_method_120_30) _ ?_
    rw [len_of Sz4 Nn4]
    show Steps p.tables e below (T2.setTop (mkF m 31 #[.val (.ref b), .val (.int (1 : Int32)), .val (.ref mO), .val (.ref b2)] [(.int (10 : Int32)), (.int (0 : Int32)), (.ref b2), (.int (0 : Int32)), (.ref b)])) _
    refine XS.iloadN X2.here hx rfl (hb hby d_jdk_65_method_120_31) rfl ?_
    show Steps p.tables e below (T2.setTop (mkF m 32 #[.val (.ref b), .val (.int (1 : Int32)), .val (.ref mO), .val (.ref b2)] [(.int (1 : Int32)), (.int (10 : Int32)), (.int (0 : Int32)), (.ref b2), (.int (0 : Int32)), (.ref b)])) _
    refine st5 _ ?_
    show Steps p.tables e below (T5.setTop (mkF m 35 #[.val (.ref b), .val (.int (1 : Int32)), .val (.ref mO), .val (.ref b2)] [(.int (1 : Int32)), (.int (0 : Int32)), (.ref b2), (.int (0 : Int32)), (.ref b)])) _
    refine st6 _ ?_
    show Steps p.tables e below (T6.setTop (mkF m 38 #[.val (.ref b), .val (.int (1 : Int32)), .val (.ref mO), .val (.ref b2)] [])) _
    refine XS.aloadN X6.here hx rfl (hb hby d_jdk_65_method_120_38) rfl rfl ?_
    exact k_
  obtain ⟨fs, hr, hrun, hended, hW, hsame⟩ := X6.leave (v := (some (.ref b2))) (fun h => by rw [Bd.returns] at h; cases h)
  refine ⟨_, _, S9 _ ((retOut X6 hx Bd.returns rfl (Or.inr (Or.inr (Or.inr (Or.inr ⟨rfl, rfl, rfl⟩)))) (hb hby d_jdk_65_method_120_39) hr)), hrun, hended, _, _, rfl, ?_, ⟨_, rfl⟩, hW, hsame.mono (by decide) (by decide)⟩
  show Q_cp3 Z b x kb mO h0 n0 _ T6.heap _
  rw [e6]
  exact ⟨b2, k2, rfl, N6, K6, v6, (by omega)⟩
def Q_cp2 (Z : State) (b : Nat) (x : Nat) (kb : ClassId) (mO : Nat) (h0 : Heap) (n0 : Nat) (v : Option Value) (h : Heap) (L : List Loc) : Prop := ∃ (t : Nat), ∃ (kt : ClassId), v = some (.ref t) ∧ Fr n0 L ∧ Keep h0 h [] ∧ (Arv Z h t kt (.object "java/lang/Object") (1 : Int32) [(.ref x)] .null) ∧ (h0.size ≤ t)
theorem ef_cp2 (m : MethodId) (b : Nat) (x : Nat) (kb : ClassId) (mO : Nat) : entryFrame m #[(.ref b), (.int (1 : Int32))] 2 = (mkF m 0 #[.val (.ref b), .val (.int (1 : Int32))] []) := by first | (simp [entryFrame, mkF, argsToLocals, Value.category]; done) | rfl
set_option maxRecDepth 65536 in
set_option maxHeartbeats 40000000 in
theorem rm_cp2 (l : Launch) (Z : State) (a0 : Array Value) (hw : ∀ d ∈ tables_1, d.before a0 Z = true) (ws : List Jvm.Cond) (b : Nat) (x : Nat) (kb : ClassId) (mO : Nat) (h0 : Heap) (n0 : Nat) (Z0 : n0 ≤ h0.size) (O0 : Old Z n0 h0) (A1 : Arv Z h0 b kb (.object "java/lang/Object") (10 : Int32) [(.ref x), .null, .null, .null, .null, .null, .null, .null, .null, .null] .null) (Eb : Exa Z h0 b "[Ljava/lang/Object;") (Ex : Exa Z h0 x "java/lang/String") (hmir : own_Mir Z "[Ljava/lang/Object;" mO) :
    MetFree l (⟨"java/util/Arrays", "copyOf", "([Ljava/lang/Object;I)[Ljava/lang/Object;"⟩ : MethodName) (head1 (Jvm.Cond.code (⟨"java/util/Arrays", "copyOf", "([Ljava/lang/Object;I)[Ljava/lang/Object;"⟩ : MethodName) jdk_65_method_119_code 2 (some (.array (.object "java/lang/Object"))) :: ws) ({ frames := 2, cells := 1, slots := 1, locals := 55 } : Room)) (fun a_ U_ => a_ = #[(.ref b), (.int (1 : Int32))] ∧ Z.Warmed39 U_.vm ∧ U_.heap = h0) (fun _ _ _ _ _ => True) (fun _ U_ o_ U'_ => ∃ v_ L_, o_ = .returned v_ ∧ Q_cp2 Z b x kb mO h0 n0 v_ U'_.heap L_ ∧ FrameEnd U_ o_ U'_ L_ ({ frames := 2, cells := 1, slots := 1, locals := 55 } : Room).cells ({ frames := 2, cells := 1, slots := 1, locals := 55 } : Room).slots) := by
  refine MetFree.of_bodySF (plainFor_of_name pn8) hisR ?_
  intro p e s m args below meth c s₁ Bd hml0 hP hK
  obtain ⟨rfl, hZ, hh⟩ := hP
  have hx := Bd.exec
  have hby := Bd.bytes
  have hml : c.maxLocals = 2 := hml0
  have hown : s.vm.findClass "java/util/Arrays" = some m.cls := findClass_of_methodNamed Bd.named
  have hnm := (name_of_methodNamed Bd.named Bd.method).1
  have X0 : Stand p l e ({ frames := 2, cells := 1, slots := 1, locals := 55 } : Room) s m #[(.ref b), (.int (1 : Int32))] below meth c s₁ [] 0 0 := Stand.of_body Bd
  have e0 : s₁.heap = h0 := by rw [← hh, Bd.state]; rfl
  have N0 := Fr.nil n0
  have oz : Z.heap.size = n0 := O0.1
  have S0 : ∀ t_, Steps p.tables e below (s₁.setTop (mkF m 0 #[.val (.ref b), .val (.int (1 : Int32))] [])) t_ → Steps p.tables e below (s₁.setTop (entryFrame m #[(.ref b), (.int (1 : Int32))] 2)) t_ := fun t_ k_ => castTop (ef_cp2 m b x kb mO) k_
  have K0 := Keep.refl h0 []
  have lt_b : (b : Nat) < (h0.size : Nat) := A1.lt
  have lt_x : (x : Nat) < (h0.size : Nat) := Ex.lt
  obtain ⟨T1, X1, e1, st1⟩ := own_gcls X0 hx hZ hown (tw212 hw) (tw213 hw) (tw82 hw) (tw215 hw) (tw214 hw) (tw216 hw) e0 Eb hmir (g := (mkF m 3 #[.val (.ref b), .val (.int (1 : Int32))] [(.ref b), (.int (1 : Int32)), (.ref b)])) rfl (by rw [hml]; rfl) rfl (hb hby d_jdk_65_method_119_3) (by decide) (W := 2) (by show 2 * 0 + _ ≤ _; exact Nat.le_of_eq rfl) (by decide)
  obtain ⟨_, _, ⟨T2, L2, k2, n2⟩, -, X2, ⟨Lc2, hQ2, l2, y2, z2⟩, st2⟩ := Jvm.LawKit.callS X1 hx (y := (⟨"java/util/Arrays", "copyOf", "([Ljava/lang/Object;ILjava/lang/Class;)[Ljava/lang/Object;"⟩ : MethodName)) hown (mvT hZ (tw218 hw)) (mvT hZ (tw219 hw)) (mvT hZ (tw210 hw)) (mvT hZ (tw220 hw)) (by decide) (backOf (W := 0) (rm_cp3 l Z a0 hw [] b x kb mO h0 n0 (by omega) O0 A1 Eb Ex (by first | assumption | omega | decide)) hZ (tw220 hw) (tw210 hw) (by decide) (by decide)) (g := (mkF m 6 #[.val (.ref b), .val (.int (1 : Int32))] [(.ref mO), (.int (1 : Int32)), (.ref b)])) rfl (by rw [hml]; rfl) (argsL := [(.ref b), (.int (1 : Int32)), (.ref mO)]) (rest := []) (lenOf pd9 rfl) rfl (by show 2 * 0 + _ ≤ _; exact Nat.le_of_eq rfl) (hb hby d_jdk_65_method_119_6) (fun _ _ => ⟨rfl, e1, (by decide : 0 + 1 ≤ _), (by decide : 0 + 1 ≤ _)⟩)
  dsimp only [Pt.U, Pt.locs, Pt.cells, Pt.slots] at X2 l2 y2 z2 st2 hQ2
  subst l2 y2 z2
  obtain ⟨t3, kt4, rfl, N2q, Kq2, p2_0, p2_1⟩ := hQ2
  have N2 := Fr.app N0 N2q
  have z2 := Kq2.1
  have K2 := K0.trans Kq2 all0
  have O2 := O0.keep Kq2 all0
  have lq5 : (t3 : Nat) < (T2.heap.size : Nat) := p2_0.lt
  have bq2 := p2_1
  have S6 : ∀ t_, Steps p.tables e below (T2.setTop (mkF m 9 #[.val (.ref b), .val (.int (1 : Int32))] [(.ref t3)])) t_ → Steps p.tables e below (s₁.setTop (entryFrame m #[(.ref b), (.int (1 : Int32))] 2)) t_ := by
    intro t_ k_
    refine S0 t_ ?_
    show Steps p.tables e below (s₁.setTop (mkF m 0 #[.val (.ref b), .val (.int (1 : Int32))] [])) _
    refine XS.aloadN X0.here hx rfl (hb hby d_jdk_65_method_119_0) rfl rfl ?_
    show Steps p.tables e below (s₁.setTop (mkF m 1 #[.val (.ref b), .val (.int (1 : Int32))] [(.ref b)])) _
    refine XS.iloadN X0.here hx rfl (hb hby d_jdk_65_method_119_1) rfl ?_
    show Steps p.tables e below (s₁.setTop (mkF m 2 #[.val (.ref b), .val (.int (1 : Int32))] [(.int (1 : Int32)), (.ref b)])) _
    refine XS.aloadN X0.here hx rfl (hb hby d_jdk_65_method_119_2) rfl rfl ?_
    show Steps p.tables e below (s₁.setTop (mkF m 3 #[.val (.ref b), .val (.int (1 : Int32))] [(.ref b), (.int (1 : Int32)), (.ref b)])) _
    refine st1 _ ?_
    show Steps p.tables e below (T1.setTop (mkF m 6 #[.val (.ref b), .val (.int (1 : Int32))] [(.ref mO), (.int (1 : Int32)), (.ref b)])) _
    refine st2 _ ?_
    exact k_
  obtain ⟨fs, hr, hrun, hended, hW, hsame⟩ := X2.leave (v := (some (.ref t3))) (fun h => by rw [Bd.returns] at h; cases h)
  refine ⟨_, _, S6 _ ((retOut X2 hx Bd.returns rfl (Or.inr (Or.inr (Or.inr (Or.inr ⟨rfl, rfl, rfl⟩)))) (hb hby d_jdk_65_method_119_9) hr)), hrun, hended, _, _, rfl, ?_, ⟨_, rfl⟩, hW, hsame.mono (by decide) (by decide)⟩
  show Q_cp2 Z b x kb mO h0 n0 _ T2.heap _
  exact ⟨t3, kt4, rfl, N2, K2, p2_0, (by omega)⟩
def Q_toa (Z : State) (a1 : Nat) (b : Nat) (x : Nat) (kb : ClassId) (mO : Nat) (h0 : Heap) (n0 : Nat) (v : Option Value) (h : Heap) (L : List Loc) : Prop := ∃ (t : Nat), ∃ (kt : ClassId), v = some (.ref t) ∧ Fr n0 L ∧ Keep h0 h [] ∧ (Arv Z h t kt (.object "java/lang/Object") (1 : Int32) [(.ref x)] .null) ∧ (h0.size ≤ t)
theorem ef_toa (m : MethodId) (a1 : Nat) (b : Nat) (x : Nat) (kb : ClassId) (mO : Nat) : entryFrame m #[(.ref a1)] 1 = (mkF m 0 #[.val (.ref a1)] []) := by first | (simp [entryFrame, mkF, argsToLocals, Value.category]; done) | rfl
set_option maxRecDepth 65536 in
set_option maxHeartbeats 40000000 in
theorem rm_toa (l : Launch) (Z : State) (a0 : Array Value) (hw : ∀ d ∈ tables_1, d.before a0 Z = true) (ws : List Jvm.Cond) (a1 : Nat) (b : Nat) (x : Nat) (kb : ClassId) (mO : Nat) (h0 : Heap) (n0 : Nat) (Z0 : n0 ≤ h0.size) (O0 : Old Z n0 h0) (E1 : Exa Z h0 a1 "java/util/ArrayList") (F2 : Fld Z h0 a1 "java/util/ArrayList" "elementData" "[Ljava/lang/Object;" (.ref b)) (F3 : Fld Z h0 a1 "java/util/ArrayList" "size" "I" (.int (1 : Int32))) (A1 : Arv Z h0 b kb (.object "java/lang/Object") (10 : Int32) [(.ref x), .null, .null, .null, .null, .null, .null, .null, .null, .null] .null) (Eb : Exa Z h0 b "[Ljava/lang/Object;") (Ex : Exa Z h0 x "java/lang/String") (hmir : own_Mir Z "[Ljava/lang/Object;" mO) :
    MetFree l (⟨"java/util/ArrayList", "toArray", "()[Ljava/lang/Object;"⟩ : MethodName) (head1 (Jvm.Cond.code (⟨"java/util/ArrayList", "toArray", "()[Ljava/lang/Object;"⟩ : MethodName) jdk_38_method_16_code 1 (some (.array (.object "java/lang/Object"))) :: ws) ({ frames := 3, cells := 1, slots := 1, locals := 68 } : Room)) (fun a_ U_ => a_ = #[(.ref a1)] ∧ Z.Warmed39 U_.vm ∧ U_.heap = h0) (fun _ _ _ _ _ => True) (fun _ U_ o_ U'_ => ∃ v_ L_, o_ = .returned v_ ∧ Q_toa Z a1 b x kb mO h0 n0 v_ U'_.heap L_ ∧ FrameEnd U_ o_ U'_ L_ ({ frames := 3, cells := 1, slots := 1, locals := 68 } : Room).cells ({ frames := 3, cells := 1, slots := 1, locals := 68 } : Room).slots) := by
  refine MetFree.of_bodySF (plainFor_of_name pn7) hisR ?_
  intro p e s m args below meth c s₁ Bd hml0 hP hK
  obtain ⟨rfl, hZ, hh⟩ := hP
  have hx := Bd.exec
  have hby := Bd.bytes
  have hml : c.maxLocals = 1 := hml0
  have hown : s.vm.findClass "java/util/ArrayList" = some m.cls := findClass_of_methodNamed Bd.named
  have hnm := (name_of_methodNamed Bd.named Bd.method).1
  have X0 : Stand p l e ({ frames := 3, cells := 1, slots := 1, locals := 68 } : Room) s m #[(.ref a1)] below meth c s₁ [] 0 0 := Stand.of_body Bd
  have e0 : s₁.heap = h0 := by rw [← hh, Bd.state]; rfl
  have N0 := Fr.nil n0
  have oz : Z.heap.size = n0 := O0.1
  have S0 : ∀ t_, Steps p.tables e below (s₁.setTop (mkF m 0 #[.val (.ref a1)] [])) t_ → Steps p.tables e below (s₁.setTop (entryFrame m #[(.ref a1)] 1)) t_ := fun t_ k_ => castTop (ef_toa m a1 b x kb mO) k_
  have K0 := Keep.refl h0 []
  have lt_a1 : (a1 : Nat) < (h0.size : Nat) := E1.lt
  have lt_b : (b : Nat) < (h0.size : Nat) := A1.lt
  have lt_x : (x : Nat) < (h0.size : Nat) := Ex.lt
  obtain ⟨T1, X1, e1, st1⟩ := getF X0 hx hZ hown (host := "") (Or.inl (tw136 hw)) Via.refl e0 F2 (g := (mkF m 1 #[.val (.ref a1)] [(.ref a1)])) rfl rfl (hb hby d_jdk_38_method_16_1)
  obtain ⟨T2, X2, e2, st2⟩ := getF X1 hx hZ hown (host := "") (Or.inl (tw168 hw)) Via.refl e1 F3 (g := (mkF m 5 #[.val (.ref a1)] [(.ref a1), (.ref b)])) rfl rfl (hb hby d_jdk_38_method_16_5)
  obtain ⟨_, _, ⟨T3, L3, k3, n3⟩, -, X3, ⟨Lc3, hQ3, l3, y3, z3⟩, st3⟩ := Jvm.LawKit.callS X2 hx (y := (⟨"java/util/Arrays", "copyOf", "([Ljava/lang/Object;I)[Ljava/lang/Object;"⟩ : MethodName)) hown (mvT hZ (tw208 hw)) (mvT hZ (tw209 hw)) (mvT hZ (tw210 hw)) (mvT hZ (tw211 hw)) (by decide) (backOf (W := 0) (rm_cp2 l Z a0 hw [] b x kb mO h0 n0 (by omega) O0 A1 Eb Ex (by first | assumption | omega | decide)) hZ (tw211 hw) (tw210 hw) (by decide) (by decide)) (g := (mkF m 8 #[.val (.ref a1)] [(.int (1 : Int32)), (.ref b)])) rfl (by rw [hml]; rfl) (argsL := [(.ref b), (.int (1 : Int32))]) (rest := []) (lenOf pd10 rfl) rfl (by show 2 * 0 + _ ≤ _; exact Nat.le_of_eq rfl) (hb hby d_jdk_38_method_16_8) (fun _ _ => ⟨rfl, e2, (by decide : 0 + 1 ≤ _), (by decide : 0 + 1 ≤ _)⟩)
  dsimp only [Pt.U, Pt.locs, Pt.cells, Pt.slots] at X3 l3 y3 z3 st3 hQ3
  subst l3 y3 z3
  obtain ⟨t4, kt5, rfl, N3q, Kq3, p3_0, p3_1⟩ := hQ3
  have N3 := Fr.app N0 N3q
  have z3 := Kq3.1
  have K3 := K0.trans Kq3 all0
  have O3 := O0.keep Kq3 all0
  have lq6 : (t4 : Nat) < (T3.heap.size : Nat) := p3_0.lt
  have bq3 := p3_1
  have S7 : ∀ t_, Steps p.tables e below (T3.setTop (mkF m 11 #[.val (.ref a1)] [(.ref t4)])) t_ → Steps p.tables e below (s₁.setTop (entryFrame m #[(.ref a1)] 1)) t_ := by
    intro t_ k_
    refine S0 t_ ?_
    show Steps p.tables e below (s₁.setTop (mkF m 0 #[.val (.ref a1)] [])) _
    refine XS.aloadN X0.here hx rfl (hb hby d_jdk_38_method_16_0) rfl rfl ?_
    show Steps p.tables e below (s₁.setTop (mkF m 1 #[.val (.ref a1)] [(.ref a1)])) _
    refine st1 _ ?_
    show Steps p.tables e below (T1.setTop (mkF m 4 #[.val (.ref a1)] [(.ref b)])) _
    refine XS.aloadN X1.here hx rfl (hb hby d_jdk_38_method_16_4) rfl rfl ?_
    show Steps p.tables e below (T1.setTop (mkF m 5 #[.val (.ref a1)] [(.ref a1), (.ref b)])) _
    refine st2 _ ?_
    show Steps p.tables e below (T2.setTop (mkF m 8 #[.val (.ref a1)] [(.int (1 : Int32)), (.ref b)])) _
    refine st3 _ ?_
    exact k_
  obtain ⟨fs, hr, hrun, hended, hW, hsame⟩ := X3.leave (v := (some (.ref t4))) (fun h => by rw [Bd.returns] at h; cases h)
  refine ⟨_, _, S7 _ ((retOut X3 hx Bd.returns rfl (Or.inr (Or.inr (Or.inr (Or.inr ⟨rfl, rfl, rfl⟩)))) (hb hby d_jdk_38_method_16_11) hr)), hrun, hended, _, _, rfl, ?_, ⟨_, rfl⟩, hW, hsame.mono (by decide) (by decide)⟩
  show Q_toa Z a1 b x kb mO h0 n0 _ T3.heap _
  exact ⟨t4, kt5, rfl, N3, K3, p3_0, (by omega)⟩
def Q_aicin (Z : State) (a1 : Nat) (h0 : Heap) (n0 : Nat) (v : Option Value) (h : Heap) (L : List Loc) : Prop := v = none ∧ Fr n0 L ∧ h = h0
theorem ef_aicin (m : MethodId) (a1 : Nat) : entryFrame m #[(.ref a1)] 1 = (mkF m 0 #[.val (.ref a1)] []) := by first | (simp [entryFrame, mkF, argsToLocals, Value.category]; done) | rfl
set_option maxRecDepth 65536 in
set_option maxHeartbeats 40000000 in
theorem rm_aicin (l : Launch) (Z : State) (a0 : Array Value) (hw : ∀ d ∈ tables_1, d.before a0 Z = true) (ws : List Jvm.Cond) (a1 : Nat) (h0 : Heap) (n0 : Nat) (Z0 : n0 ≤ h0.size) (O0 : Old Z n0 h0)  :
    MetFree l (⟨"java/util/ImmutableCollections$AbstractImmutableCollection", "<init>", "()V"⟩ : MethodName) (head1 (Jvm.Cond.code (⟨"java/util/ImmutableCollections$AbstractImmutableCollection", "<init>", "()V"⟩ : MethodName) jdk_47_method_1_code 1 none :: ws) ({ frames := 2, cells := 0, slots := 0, locals := 24 } : Room)) (fun a_ U_ => a_ = #[(.ref a1)] ∧ Z.Warmed39 U_.vm ∧ U_.heap = h0) (fun _ _ _ _ _ => True) (fun _ U_ o_ U'_ => ∃ v_ L_, o_ = .returned v_ ∧ Q_aicin Z a1 h0 n0 v_ U'_.heap L_ ∧ FrameEnd U_ o_ U'_ L_ ({ frames := 2, cells := 0, slots := 0, locals := 24 } : Room).cells ({ frames := 2, cells := 0, slots := 0, locals := 24 } : Room).slots) := by
  refine MetFree.of_bodySF (plainFor_of_name pn9) hisR ?_
  intro p e s m args below meth c s₁ Bd hml0 hP hK
  obtain ⟨rfl, hZ, hh⟩ := hP
  have hx := Bd.exec
  have hby := Bd.bytes
  have hml : c.maxLocals = 1 := hml0
  have hown : s.vm.findClass "java/util/ImmutableCollections$AbstractImmutableCollection" = some m.cls := findClass_of_methodNamed Bd.named
  have hnm := (name_of_methodNamed Bd.named Bd.method).1
  have X0 : Stand p l e ({ frames := 2, cells := 0, slots := 0, locals := 24 } : Room) s m #[(.ref a1)] below meth c s₁ [] 0 0 := Stand.of_body Bd
  have e0 : s₁.heap = h0 := by rw [← hh, Bd.state]; rfl
  have N0 := Fr.nil n0
  have oz : Z.heap.size = n0 := O0.1
  have S0 : ∀ t_, Steps p.tables e below (s₁.setTop (mkF m 0 #[.val (.ref a1)] [])) t_ → Steps p.tables e below (s₁.setTop (entryFrame m #[(.ref a1)] 1)) t_ := fun t_ k_ => castTop (ef_aicin m a1) k_
  obtain ⟨_, _, ⟨T1, L1, k1, n1⟩, -, X1, ⟨Lc1, hQ1, l1, y1, z1⟩, st1⟩ := X0.specialBack hx (y := (⟨"java/util/AbstractCollection", "<init>", "()V"⟩ : MethodName)) rfl hown (mvT hZ (tw252 hw)) (mvT hZ (tw127 hw)) (mvT hZ (tw131 hw)) (by decide) (backOf (W := 0) (rm_acin l Z a0 hw [] a1 h0 n0 (by omega) O0 ) hZ (tw131 hw) (tw130 hw) (by decide) (by decide)) (g := (mkF m 1 #[.val (.ref a1)] [(.ref a1)])) rfl (by rw [hml]; rfl) (Steps.refl _) (a := a1) (argsL := []) (rest := []) (lenOf pd4 rfl) rfl (by show 2 * 0 + _ ≤ _; exact Nat.le_of_eq rfl) (hb hby d_jdk_47_method_1_1) (fun _ _ => ⟨rfl, e0, (by decide : 0 + 0 ≤ _), (by decide : 0 + 0 ≤ _)⟩)
  dsimp only [Pt.U, Pt.locs, Pt.cells, Pt.slots] at X1 l1 y1 z1 st1 hQ1
  subst l1 y1 z1
  obtain ⟨rfl, N1q, Kq1⟩ := hQ1
  have N1 := Fr.app N0 N1q
  have S2 : ∀ t_, Steps p.tables e below (T1.setTop (mkF m 4 #[.val (.ref a1)] [])) t_ → Steps p.tables e below (s₁.setTop (entryFrame m #[(.ref a1)] 1)) t_ := by
    intro t_ k_
    refine S0 t_ ?_
    show Steps p.tables e below (s₁.setTop (mkF m 0 #[.val (.ref a1)] [])) _
    refine XS.aloadN X0.here hx rfl (hb hby d_jdk_47_method_1_0) rfl rfl ?_
    show Steps p.tables e below (s₁.setTop (mkF m 1 #[.val (.ref a1)] [(.ref a1)])) _
    refine st1.trans ?_
    exact k_
  obtain ⟨fs, hr, hrun, hended, hW, hsame⟩ := X1.leave (v := none) (fun _ => rfl)
  refine ⟨_, _, S2 _ (X1.returnOut hx Bd.returns (hb hby d_jdk_47_method_1_4) hr), hrun, hended, _, _, rfl, ?_, ⟨_, rfl⟩, hW, hsame.mono (by decide) (by decide)⟩
  show Q_aicin Z a1 h0 n0 _ T1.heap _
  rw [Kq1]
  exact ⟨rfl, N1, rfl⟩
def Q_ailin (Z : State) (a1 : Nat) (h0 : Heap) (n0 : Nat) (v : Option Value) (h : Heap) (L : List Loc) : Prop := v = none ∧ Fr n0 L ∧ h = h0
theorem ef_ailin (m : MethodId) (a1 : Nat) : entryFrame m #[(.ref a1)] 1 = (mkF m 0 #[.val (.ref a1)] []) := by first | (simp [entryFrame, mkF, argsToLocals, Value.category]; done) | rfl
set_option maxRecDepth 65536 in
set_option maxHeartbeats 40000000 in
theorem rm_ailin (l : Launch) (Z : State) (a0 : Array Value) (hw : ∀ d ∈ tables_1, d.before a0 Z = true) (ws : List Jvm.Cond) (a1 : Nat) (h0 : Heap) (n0 : Nat) (Z0 : n0 ≤ h0.size) (O0 : Old Z n0 h0)  :
    MetFree l (⟨"java/util/ImmutableCollections$AbstractImmutableList", "<init>", "()V"⟩ : MethodName) (head1 (Jvm.Cond.code (⟨"java/util/ImmutableCollections$AbstractImmutableList", "<init>", "()V"⟩ : MethodName) jdk_46_method_1_code 1 none :: ws) ({ frames := 3, cells := 0, slots := 0, locals := 36 } : Room)) (fun a_ U_ => a_ = #[(.ref a1)] ∧ Z.Warmed39 U_.vm ∧ U_.heap = h0) (fun _ _ _ _ _ => True) (fun _ U_ o_ U'_ => ∃ v_ L_, o_ = .returned v_ ∧ Q_ailin Z a1 h0 n0 v_ U'_.heap L_ ∧ FrameEnd U_ o_ U'_ L_ ({ frames := 3, cells := 0, slots := 0, locals := 36 } : Room).cells ({ frames := 3, cells := 0, slots := 0, locals := 36 } : Room).slots) := by
  refine MetFree.of_bodySF (plainFor_of_name pn10) hisR ?_
  intro p e s m args below meth c s₁ Bd hml0 hP hK
  obtain ⟨rfl, hZ, hh⟩ := hP
  have hx := Bd.exec
  have hby := Bd.bytes
  have hml : c.maxLocals = 1 := hml0
  have hown : s.vm.findClass "java/util/ImmutableCollections$AbstractImmutableList" = some m.cls := findClass_of_methodNamed Bd.named
  have hnm := (name_of_methodNamed Bd.named Bd.method).1
  have X0 : Stand p l e ({ frames := 3, cells := 0, slots := 0, locals := 36 } : Room) s m #[(.ref a1)] below meth c s₁ [] 0 0 := Stand.of_body Bd
  have e0 : s₁.heap = h0 := by rw [← hh, Bd.state]; rfl
  have N0 := Fr.nil n0
  have oz : Z.heap.size = n0 := O0.1
  have S0 : ∀ t_, Steps p.tables e below (s₁.setTop (mkF m 0 #[.val (.ref a1)] [])) t_ → Steps p.tables e below (s₁.setTop (entryFrame m #[(.ref a1)] 1)) t_ := fun t_ k_ => castTop (ef_ailin m a1) k_
  obtain ⟨_, _, ⟨T1, L1, k1, n1⟩, -, X1, ⟨Lc1, hQ1, l1, y1, z1⟩, st1⟩ := X0.specialBack hx (y := (⟨"java/util/ImmutableCollections$AbstractImmutableCollection", "<init>", "()V"⟩ : MethodName)) rfl hown (mvT hZ (tw246 hw)) (mvT hZ (tw247 hw)) (mvT hZ (tw251 hw)) (by decide) (backOf (W := 0) (rm_aicin l Z a0 hw [] a1 h0 n0 (by omega) O0 ) hZ (tw251 hw) (tw250 hw) (by decide) (by decide)) (g := (mkF m 1 #[.val (.ref a1)] [(.ref a1)])) rfl (by rw [hml]; rfl) (Steps.refl _) (a := a1) (argsL := []) (rest := []) (lenOf pd4 rfl) rfl (by show 2 * 0 + _ ≤ _; exact Nat.le_of_eq rfl) (hb hby d_jdk_46_method_1_1) (fun _ _ => ⟨rfl, e0, (by decide : 0 + 0 ≤ _), (by decide : 0 + 0 ≤ _)⟩)
  dsimp only [Pt.U, Pt.locs, Pt.cells, Pt.slots] at X1 l1 y1 z1 st1 hQ1
  subst l1 y1 z1
  obtain ⟨rfl, N1q, Kq1⟩ := hQ1
  have N1 := Fr.app N0 N1q
  have S2 : ∀ t_, Steps p.tables e below (T1.setTop (mkF m 4 #[.val (.ref a1)] [])) t_ → Steps p.tables e below (s₁.setTop (entryFrame m #[(.ref a1)] 1)) t_ := by
    intro t_ k_
    refine S0 t_ ?_
    show Steps p.tables e below (s₁.setTop (mkF m 0 #[.val (.ref a1)] [])) _
    refine XS.aloadN X0.here hx rfl (hb hby d_jdk_46_method_1_0) rfl rfl ?_
    show Steps p.tables e below (s₁.setTop (mkF m 1 #[.val (.ref a1)] [(.ref a1)])) _
    refine st1.trans ?_
    exact k_
  obtain ⟨fs, hr, hrun, hended, hW, hsame⟩ := X1.leave (v := none) (fun _ => rfl)
  refine ⟨_, _, S2 _ (X1.returnOut hx Bd.returns (hb hby d_jdk_46_method_1_4) hr), hrun, hended, _, _, rfl, ?_, ⟨_, rfl⟩, hW, hsame.mono (by decide) (by decide)⟩
  show Q_ailin Z a1 h0 n0 _ T1.heap _
  rw [Kq1]
  exact ⟨rfl, N1, rfl⟩
def Q_rnn (Z : State) (a1 : Nat) (h0 : Heap) (n0 : Nat) (v : Option Value) (h : Heap) (L : List Loc) : Prop := v = some (.ref a1) ∧ Fr n0 L ∧ h = h0
theorem ef_rnn (m : MethodId) (a1 : Nat) : entryFrame m #[(.ref a1)] 1 = (mkF m 0 #[.val (.ref a1)] []) := by first | (simp [entryFrame, mkF, argsToLocals, Value.category]; done) | rfl
set_option maxRecDepth 65536 in
set_option maxHeartbeats 40000000 in
theorem rm_rnn (l : Launch) (Z : State) (a0 : Array Value) (hw : ∀ d ∈ tables_1, d.before a0 Z = true) (ws : List Jvm.Cond) (a1 : Nat) (h0 : Heap) (n0 : Nat) (Z0 : n0 ≤ h0.size) (O0 : Old Z n0 h0)  :
    MetFree l (⟨"java/util/Objects", "requireNonNull", "(Ljava/lang/Object;)Ljava/lang/Object;"⟩ : MethodName) (head1 (Jvm.Cond.code (⟨"java/util/Objects", "requireNonNull", "(Ljava/lang/Object;)Ljava/lang/Object;"⟩ : MethodName) jdk_31_method_10_code 1 (some (.object "java/lang/Object")) :: ws) ({ frames := 0, cells := 0, slots := 0, locals := 0 } : Room)) (fun a_ U_ => a_ = #[(.ref a1)] ∧ Z.Warmed39 U_.vm ∧ U_.heap = h0) (fun _ _ _ _ _ => True) (fun _ U_ o_ U'_ => ∃ v_ L_, o_ = .returned v_ ∧ Q_rnn Z a1 h0 n0 v_ U'_.heap L_ ∧ FrameEnd U_ o_ U'_ L_ ({ frames := 0, cells := 0, slots := 0, locals := 0 } : Room).cells ({ frames := 0, cells := 0, slots := 0, locals := 0 } : Room).slots) := by
  refine MetFree.of_bodySF (plainFor_of_name pn11) hisR ?_
  intro p e s m args below meth c s₁ Bd hml0 hP hK
  obtain ⟨rfl, hZ, hh⟩ := hP
  have hx := Bd.exec
  have hby := Bd.bytes
  have hml : c.maxLocals = 1 := hml0
  have hown : s.vm.findClass "java/util/Objects" = some m.cls := findClass_of_methodNamed Bd.named
  have hnm := (name_of_methodNamed Bd.named Bd.method).1
  have X0 : Stand p l e ({ frames := 0, cells := 0, slots := 0, locals := 0 } : Room) s m #[(.ref a1)] below meth c s₁ [] 0 0 := Stand.of_body Bd
  have e0 : s₁.heap = h0 := by rw [← hh, Bd.state]; rfl
  have N0 := Fr.nil n0
  have oz : Z.heap.size = n0 := O0.1
  have S0 : ∀ t_, Steps p.tables e below (s₁.setTop (mkF m 0 #[.val (.ref a1)] [])) t_ → Steps p.tables e below (s₁.setTop (entryFrame m #[(.ref a1)] 1)) t_ := fun t_ k_ => castTop (ef_rnn m a1) k_
  have S1 : ∀ t_, Steps p.tables e below (s₁.setTop (mkF m 13 #[.val (.ref a1)] [(.ref a1)])) t_ → Steps p.tables e below (s₁.setTop (entryFrame m #[(.ref a1)] 1)) t_ := by
    intro t_ k_
    refine S0 t_ ?_
    show Steps p.tables e below (s₁.setTop (mkF m 0 #[.val (.ref a1)] [])) _
    refine XS.aloadN X0.here hx rfl (hb hby d_jdk_31_method_10_0) rfl rfl ?_
    show Steps p.tables e below (s₁.setTop (mkF m 1 #[.val (.ref a1)] [(.ref a1)])) _
    refine XS.ifnonnullYes X0.here hx rfl (pc0 := 1) (pc' := 12) rfl (hb hby d_jdk_31_method_10_1) rfl (by decide) (by decide) ?_
    show Steps p.tables e below (s₁.setTop (mkF m 12 #[.val (.ref a1)] [])) _
    refine XS.aloadN X0.here hx rfl (hb hby d_jdk_31_method_10_12) rfl rfl ?_
    exact k_
  obtain ⟨fs, hr, hrun, hended, hW, hsame⟩ := X0.leave (v := (some (.ref a1))) (fun h => by rw [Bd.returns] at h; cases h)
  refine ⟨_, _, S1 _ ((retOut X0 hx Bd.returns rfl (Or.inr (Or.inr (Or.inr (Or.inr ⟨rfl, rfl, rfl⟩)))) (hb hby d_jdk_31_method_10_13) hr)), hrun, hended, _, _, rfl, ?_, ⟨_, rfl⟩, hW, hsame.mono (by decide) (by decide)⟩
  show Q_rnn Z a1 h0 n0 _ s₁.heap _
  rw [e0]
  exact ⟨rfl, N0, rfl⟩
def Q_l12in (Z : State) (a1 : Nat) (x : Nat) (u1 : Value) (u2 : Value) (a_EMPTY : Nat) (h0 : Heap) (n0 : Nat) (v : Option Value) (h : Heap) (L : List Loc) : Prop := v = none ∧ Fr n0 L ∧ Keep h0 h [a1] ∧ (Exa Z h a1 "java/util/ImmutableCollections$List12")
theorem ef_l12in (m : MethodId) (a1 : Nat) (x : Nat) (u1 : Value) (u2 : Value) (a_EMPTY : Nat) : entryFrame m #[(.ref a1), (.ref x)] 2 = (mkF m 0 #[.val (.ref a1), .val (.ref x)] []) := by first | (simp [entryFrame, mkF, argsToLocals, Value.category]; done) | rfl
set_option maxRecDepth 65536 in
set_option maxHeartbeats 40000000 in
theorem rm_l12in (l : Launch) (Z : State) (a0 : Array Value) (hw : ∀ d ∈ tables_1, d.before a0 Z = true) (ws : List Jvm.Cond) (a1 : Nat) (x : Nat) (u1 : Value) (u2 : Value) (a_EMPTY : Nat) (h0 : Heap) (n0 : Nat) (Z0 : n0 ≤ h0.size) (O0 : Old Z n0 h0) (E1 : Exa Z h0 a1 "java/util/ImmutableCollections$List12") (F1 : Fld Z h0 a1 "java/util/ImmutableCollections$List12" "e0" "Ljava/lang/Object;" u1) (F2 : Fld Z h0 a1 "java/util/ImmutableCollections$List12" "e1" "Ljava/lang/Object;" u2) (ga : n0 ≤ a1) (S_EMPTY : Sta Z Z.heap "java/util/ImmutableCollections" "EMPTY" "Ljava/lang/Object;" (.ref a_EMPTY)) :
    MetFree l (⟨"java/util/ImmutableCollections$List12", "<init>", "(Ljava/lang/Object;)V"⟩ : MethodName) (head1 (Jvm.Cond.code (⟨"java/util/ImmutableCollections$List12", "<init>", "(Ljava/lang/Object;)V"⟩ : MethodName) jdk_44_method_1_code 2 none :: ws) ({ frames := 4, cells := 0, slots := 0, locals := 48 } : Room)) (fun a_ U_ => a_ = #[(.ref a1), (.ref x)] ∧ Z.Warmed39 U_.vm ∧ U_.heap = h0) (fun _ _ _ _ _ => True) (fun _ U_ o_ U'_ => ∃ v_ L_, o_ = .returned v_ ∧ Q_l12in Z a1 x u1 u2 a_EMPTY h0 n0 v_ U'_.heap L_ ∧ FrameEnd U_ o_ U'_ L_ ({ frames := 4, cells := 0, slots := 0, locals := 48 } : Room).cells ({ frames := 4, cells := 0, slots := 0, locals := 48 } : Room).slots) := by
  refine MetFree.of_bodySF (plainFor_of_name pn12) hisR ?_
  intro p e s m args below meth c s₁ Bd hml0 hP hK
  obtain ⟨rfl, hZ, hh⟩ := hP
  have hx := Bd.exec
  have hby := Bd.bytes
  have hml : c.maxLocals = 2 := hml0
  have hown : s.vm.findClass "java/util/ImmutableCollections$List12" = some m.cls := findClass_of_methodNamed Bd.named
  have hnm := (name_of_methodNamed Bd.named Bd.method).1
  have X0 : Stand p l e ({ frames := 4, cells := 0, slots := 0, locals := 48 } : Room) s m #[(.ref a1), (.ref x)] below meth c s₁ [] 0 0 := Stand.of_body Bd
  have e0 : s₁.heap = h0 := by rw [← hh, Bd.state]; rfl
  have N0 := Fr.nil n0
  have oz : Z.heap.size = n0 := O0.1
  have S0 : ∀ t_, Steps p.tables e below (s₁.setTop (mkF m 0 #[.val (.ref a1), .val (.ref x)] [])) t_ → Steps p.tables e below (s₁.setTop (entryFrame m #[(.ref a1), (.ref x)] 2)) t_ := fun t_ k_ => castTop (ef_l12in m a1 x u1 u2 a_EMPTY) k_
  have K0 := Keep.refl h0 [a1]
  have lt_a1 : (a1 : Nat) < (h0.size : Nat) := E1.lt
  obtain ⟨_, _, ⟨T1, L1, k1, n1⟩, -, X1, ⟨Lc1, hQ1, l1, y1, z1⟩, st1⟩ := X0.specialBack hx (y := (⟨"java/util/ImmutableCollections$AbstractImmutableList", "<init>", "()V"⟩ : MethodName)) rfl hown (mvT hZ (tw240 hw)) (mvT hZ (tw241 hw)) (mvT hZ (tw245 hw)) (by decide) (backOf (W := 0) (rm_ailin l Z a0 hw [] a1 h0 n0 (by omega) O0 ) hZ (tw245 hw) (tw244 hw) (by decide) (by decide)) (g := (mkF m 1 #[.val (.ref a1), .val (.ref x)] [(.ref a1)])) rfl (by rw [hml]; rfl) (Steps.refl _) (a := a1) (argsL := []) (rest := []) (lenOf pd4 rfl) rfl (by show 2 * 0 + _ ≤ _; exact Nat.le_of_eq rfl) (hb hby d_jdk_44_method_1_1) (fun _ _ => ⟨rfl, e0, (by decide : 0 + 0 ≤ _), (by decide : 0 + 0 ≤ _)⟩)
  dsimp only [Pt.U, Pt.locs, Pt.cells, Pt.slots] at X1 l1 y1 z1 st1 hQ1
  subst l1 y1 z1
  obtain ⟨rfl, N1q, Kq1⟩ := hQ1
  have N1 := Fr.app N0 N1q
  obtain ⟨_, _, ⟨T2, L2, k2, n2⟩, -, X2, ⟨Lc2, hQ2, l2, y2, z2⟩, st2⟩ := Jvm.LawKit.callS X1 hx (y := (⟨"java/util/Objects", "requireNonNull", "(Ljava/lang/Object;)Ljava/lang/Object;"⟩ : MethodName)) hown (mvT hZ (tw254 hw)) (mvT hZ (tw255 hw)) (mvT hZ (tw256 hw)) (mvT hZ (tw257 hw)) (by decide) (backOf (W := 1) (rm_rnn l Z a0 hw [] x h0 n0 (by omega) O0 ) hZ (tw257 hw) (tw256 hw) (by decide) (by decide)) (g := (mkF m 6 #[.val (.ref a1), .val (.ref x)] [(.ref x), (.ref a1)])) rfl (by rw [hml]; rfl) (argsL := [(.ref x)]) (rest := [(.ref a1)]) (lenOf pd11 rfl) rfl (by show 2 * 0 + _ ≤ _; exact Nat.le_of_eq rfl) (hb hby d_jdk_44_method_1_6) (fun _ _ => ⟨rfl, Kq1, (by decide : 0 + 0 ≤ _), (by decide : 0 + 0 ≤ _)⟩)
  dsimp only [Pt.U, Pt.locs, Pt.cells, Pt.slots] at X2 l2 y2 z2 st2 hQ2
  subst l2 y2 z2
  obtain ⟨rfl, N2q, Kq2⟩ := hQ2
  have N2 := Fr.app N1 N2q
  obtain ⟨T3, h3, X3, e3, W3, st3⟩ := putF X2 hx hZ hown (host := "") (Or.inl (tw258 hw)) Via.refl Kq2 F1 E1 (Or.inr ⟨(tw259 hw), rfl, hnm⟩) (tw234 hw) (ty := (.object "java/lang/Object")) (by decide) rfl rfl (g := (mkF m 9 #[.val (.ref a1), .val (.ref x)] [(.ref x), (.ref a1)])) rfl rfl (hb hby d_jdk_44_method_1_9)
  have z3 := W3.size
  have K3 := K0.wr W3 (Or.inl (by simp))
  have N3 := Fr.snoc X3 N2 (by omega)
  have O3 := O0.wr W3 (by omega)
  have fw3 := F1.same W3
  obtain ⟨T4, X4, e4, st4⟩ := getS2 X3 hx hZ hown (Or.inr (tw260 hw)) Via.refl e3 (S_EMPTY.ext O3.2) (g := (mkF m 13 #[.val (.ref a1), .val (.ref x)] [(.ref a1)])) rfl (hb hby d_jdk_44_method_1_13)
  have f5 := (E1.wr W3)
  have f6 := (F2.other W3 (Or.inr (slot_ne (Or.inr (tw262 hw)) (Or.inr (tw259 hw)) (by decide) (t := (.object "java/lang/Object")) (t' := (.object "java/lang/Object")) (by decide) (by decide))))
  obtain ⟨T7, h7, X7, e7, W7, st7⟩ := putF X4 hx hZ hown (host := "") (Or.inl (tw261 hw)) Via.refl e4 f6 f5 (Or.inr ⟨(tw262 hw), rfl, hnm⟩) (tw234 hw) (ty := (.object "java/lang/Object")) (by decide) rfl rfl (g := (mkF m 16 #[.val (.ref a1), .val (.ref x)] [(.ref a_EMPTY), (.ref a1)])) rfl rfl (hb hby d_jdk_44_method_1_16)
  have z7 := W7.size
  have K7 := K3.wr W7 (Or.inl (by simp))
  have N7 := Fr.snoc X7 N3 (by omega)
  have O7 := O3.wr W7 (by omega)
  have fw7 := f6.same W7
  have S8 : ∀ t_, Steps p.tables e below (T7.setTop (mkF m 19 #[.val (.ref a1), .val (.ref x)] [])) t_ → Steps p.tables e below (s₁.setTop (entryFrame m #[(.ref a1), (.ref x)] 2)) t_ := by
    intro t_ k_
    refine S0 t_ ?_
    show Steps p.tables e below (s₁.setTop (mkF m 0 #[.val (.ref a1), .val (.ref x)] [])) _
    refine XS.aloadN X0.here hx rfl (hb hby d_jdk_44_method_1_0) rfl rfl ?_
    show Steps p.tables e below (s₁.setTop (mkF m 1 #[.val (.ref a1), .val (.ref x)] [(.ref a1)])) _
    refine st1.trans ?_
    show Steps p.tables e below (T1.setTop (mkF m 4 #[.val (.ref a1), .val (.ref x)] [])) _
    refine XS.aloadN X1.here hx rfl (hb hby d_jdk_44_method_1_4) rfl rfl ?_
    show Steps p.tables e below (T1.setTop (mkF m 5 #[.val (.ref a1), .val (.ref x)] [(.ref a1)])) _
    refine XS.aloadN X1.here hx rfl (hb hby d_jdk_44_method_1_5) rfl rfl ?_
    show Steps p.tables e below (T1.setTop (mkF m 6 #[.val (.ref a1), .val (.ref x)] [(.ref x), (.ref a1)])) _
    refine st2 _ ?_
    show Steps p.tables e below (T2.setTop (mkF m 9 #[.val (.ref a1), .val (.ref x)] [(.ref x), (.ref a1)])) _
    refine st3 _ ?_
    show Steps p.tables e below (T3.setTop (mkF m 12 #[.val (.ref a1), .val (.ref x)] [])) _
    refine XS.aloadN X3.here hx rfl (hb hby d_jdk_44_method_1_12) rfl rfl ?_
    show Steps p.tables e below (T3.setTop (mkF m 13 #[.val (.ref a1), .val (.ref x)] [(.ref a1)])) _
    refine st4 _ ?_
    show Steps p.tables e below (T4.setTop (mkF m 16 #[.val (.ref a1), .val (.ref x)] [(.ref a_EMPTY), (.ref a1)])) _
    refine st7 _ ?_
    exact k_
  obtain ⟨fs, hr, hrun, hended, hW, hsame⟩ := X7.leave (v := none) (fun _ => rfl)
  refine ⟨_, _, S8 _ (X7.returnOut hx Bd.returns (hb hby d_jdk_44_method_1_19) hr), hrun, hended, _, _, rfl, ?_, ⟨_, rfl⟩, hW, hsame.mono (by decide) (by decide)⟩
  show Q_l12in Z a1 x u1 u2 a_EMPTY h0 n0 _ T7.heap _
  rw [e7]
  have f9 := (f5.wr W7)
  exact ⟨rfl, N7, K7, f9⟩
def Q_loa (Z : State) (t : Nat) (kt : ClassId) (x : Nat) (a_EMPTY : Nat) (h0 : Heap) (n0 : Nat) (v : Option Value) (h : Heap) (L : List Loc) : Prop := ∃ (b : Nat), v = some (.ref b) ∧ Fr n0 L ∧ Keep h0 h [] ∧ (Exa Z h b "java/util/ImmutableCollections$List12") ∧ (h0.size ≤ b)
theorem ef_loa (m : MethodId) (t : Nat) (kt : ClassId) (x : Nat) (a_EMPTY : Nat) : entryFrame m #[(.ref t)] 2 = (mkF m 0 #[.val (.ref t), .unset] []) := by first | (simp [entryFrame, mkF, argsToLocals, Value.category]; done) | rfl
set_option maxRecDepth 65536 in
set_option maxHeartbeats 40000000 in
theorem rm_loa (l : Launch) (Z : State) (a0 : Array Value) (hw : ∀ d ∈ tables_1, d.before a0 Z = true) (ws : List Jvm.Cond) (t : Nat) (kt : ClassId) (x : Nat) (a_EMPTY : Nat) (h0 : Heap) (n0 : Nat) (Z0 : n0 ≤ h0.size) (O0 : Old Z n0 h0) (A1 : Arv Z h0 t kt (.object "java/lang/Object") (1 : Int32) [(.ref x)] .null) (S_EMPTY : Sta Z Z.heap "java/util/ImmutableCollections" "EMPTY" "Ljava/lang/Object;" (.ref a_EMPTY)) :
    MetFree l (⟨"java/util/List", "of", "([Ljava/lang/Object;)Ljava/util/List;"⟩ : MethodName) (head1 (Jvm.Cond.code (⟨"java/util/List", "of", "([Ljava/lang/Object;)Ljava/util/List;"⟩ : MethodName) jdk_40_method_47_code 2 (some (.object "java/util/List")) :: ws) ({ frames := 5, cells := 1, slots := 2, locals := 62 } : Room)) (fun a_ U_ => a_ = #[(.ref t)] ∧ Z.Warmed39 U_.vm ∧ U_.heap = h0) (fun _ _ _ _ _ => True) (fun _ U_ o_ U'_ => ∃ v_ L_, o_ = .returned v_ ∧ Q_loa Z t kt x a_EMPTY h0 n0 v_ U'_.heap L_ ∧ FrameEnd U_ o_ U'_ L_ ({ frames := 5, cells := 1, slots := 2, locals := 62 } : Room).cells ({ frames := 5, cells := 1, slots := 2, locals := 62 } : Room).slots) := by
  refine MetFree.of_bodySF (plainFor_of_name pn2) hisR ?_
  intro p e s m args below meth c s₁ Bd hml0 hP hK
  obtain ⟨rfl, hZ, hh⟩ := hP
  have hx := Bd.exec
  have hby := Bd.bytes
  have hml : c.maxLocals = 2 := hml0
  have hown : s.vm.findClass "java/util/List" = some m.cls := findClass_of_methodNamed Bd.named
  have hnm := (name_of_methodNamed Bd.named Bd.method).1
  have X0 : Stand p l e ({ frames := 5, cells := 1, slots := 2, locals := 62 } : Room) s m #[(.ref t)] below meth c s₁ [] 0 0 := Stand.of_body Bd
  have e0 : s₁.heap = h0 := by rw [← hh, Bd.state]; rfl
  have N0 := Fr.nil n0
  have oz : Z.heap.size = n0 := O0.1
  have S0 : ∀ t_, Steps p.tables e below (s₁.setTop (mkF m 0 #[.val (.ref t), .unset] [])) t_ → Steps p.tables e below (s₁.setTop (entryFrame m #[(.ref t)] 2)) t_ := fun t_ k_ => castTop (ef_loa m t kt x a_EMPTY) k_
  have K0 := Keep.refl h0 []
  have lt_t : (t : Nat) < (h0.size : Nat) := A1.lt
  obtain ⟨cl1, Ar1, q1, Sz1, Nn1, H1, G1⟩ := id A1
  obtain ⟨T2, h2, X2, e2, E2, A2, D2, -, st2⟩ := newO X0 hx hZ hown (tw233 hw) (tw234 hw) (tw235 hw) e0 (g := (mkF m 34 #[.val (.ref t), .unset] [])) rfl (hb hby d_jdk_40_method_47_34) (by decide) (by decide)
  obtain ⟨b2, g2⟩ : ∃ z, z = h0.size := ⟨_, rfl⟩
  rw [← g2] at A2 D2 st2
  have lb2 : (b2 : Nat) < (h2.size : Nat) := A2.lt
  have z2 := E2.1
  have K2 := K0.ext E2
  have O2 := O0.ext E2
  have f3 : Fld Z h2 b2 "java/util/ImmutableCollections$List12" "e0" "Ljava/lang/Object;" .null := D2 (Or.inr (tw259 hw)) (ty := (.object "java/lang/Object")) (by decide)
  have f4 : Fld Z h2 b2 "java/util/ImmutableCollections$List12" "e1" "Ljava/lang/Object;" .null := D2 (Or.inr (tw262 hw)) (ty := (.object "java/lang/Object")) (by decide)
  have f5 := (A1.ext E2)
  obtain ⟨cl6, Ar6, q6, Sz6, Nn6, H6, G6⟩ := id f5
  have hin6 : ¬ ((0 : Int32) < 0 ∨ cl6.slots.size ≤ ((0 : Int32)).toNatClampNeg) := inb_of Sz6 ⟨by decide, by decide⟩
  have hat6 : cl6.slots[((0 : Int32)).toNatClampNeg]? = some (.ref x) := H6.at hin6 rfl
  obtain ⟨_, _, ⟨T7, L7, k7, n7⟩, -, X7, ⟨Lc7, hQ7, l7, y7, z7⟩, st7⟩ := X2.specialBack hx (y := (⟨"java/util/ImmutableCollections$List12", "<init>", "(Ljava/lang/Object;)V"⟩ : MethodName)) rfl hown (mvT hZ (tw236 hw)) (mvT hZ (tw237 hw)) (mvT hZ (tw239 hw)) (by decide) (backOf (W := 1) (rm_l12in l Z a0 hw [] b2 x .null .null a_EMPTY h2 n0 (by omega) O2 A2 f3 f4 (by omega) S_EMPTY) hZ (tw239 hw) (tw235 hw) (by decide) (by decide)) (g := (mkF m 41 #[.val (.ref t), .unset] [(.ref x), (.ref b2), (.ref b2)])) rfl (by rw [hml]; rfl) (Steps.refl _) (a := b2) (argsL := [(.ref x)]) (rest := [(.ref b2)]) (lenOf pd12 rfl) rfl (by show 2 * 0 + _ ≤ _; exact Nat.le_of_eq rfl) (hb hby d_jdk_40_method_47_41) (fun _ _ => ⟨rfl, e2, (by decide : 1 + 0 ≤ _), (by decide : 2 + 0 ≤ _)⟩)
  dsimp only [Pt.U, Pt.locs, Pt.cells, Pt.slots] at X7 l7 y7 z7 st7 hQ7
  subst l7 y7 z7
  obtain ⟨rfl, N7q, Kq7, p7_0⟩ := hQ7
  have N7 := Fr.app N0 N7q
  have z7 := Kq7.1
  have K7 := K2.trans Kq7 (allS (Or.inr (by omega)) all0)
  have O7 := O2.keep Kq7 (allS (by omega) all0)
  have lq8 : (b2 : Nat) < (T7.heap.size : Nat) := p7_0.lt
  have S9 : ∀ t_, Steps p.tables e below (T7.setTop (mkF m 44 #[.val (.ref t), .unset] [(.ref b2)])) t_ → Steps p.tables e below (s₁.setTop (entryFrame m #[(.ref t)] 2)) t_ := by
    intro t_ k_
    refine S0 t_ ?_
    show Steps p.tables e below (s₁.setTop (mkF m 0 #[.val (.ref t), .unset] [])) _
    refine XS.aloadN X0.here hx rfl (hb hby d_jdk_40_method_47_0) rfl rfl ?_
    show Steps p.tables e below (s₁.setTop (mkF m 1 #[.val (.ref t), .unset] [(.ref t)])) _
    refine X0.arraylength hx (by rw [e0]; exact Ar1.1) (State.isArrayOf_alike hZ.alike Ar1.2.1) (g := (mkF m 1 #[.val (.ref t), .unset] [(.ref t)])) rfl rfl (hb hby d_jdk_40_method_47_1) _ ?_
    rw [len_of Sz1 Nn1]
    show Steps p.tables e below (s₁.setTop (mkF m 2 #[.val (.ref t), .unset] [(.int (1 : Int32))])) _
    refine XS.tswIn X0.here hx rfl (pc0 := 2) (pc' := 34) rfl (hb hby d_jdk_40_method_47_2) rfl (by decide) (o := 32) rfl (by decide) (by decide) ?_
    show Steps p.tables e below (s₁.setTop (mkF m 34 #[.val (.ref t), .unset] [])) _
    refine st2 _ ?_
    show Steps p.tables e below (T2.setTop (mkF m 37 #[.val (.ref t), .unset] [(.ref b2)])) _
    refine XS.dup X2.here hx rfl (hb hby d_jdk_40_method_47_37) rfl rfl ?_
    show Steps p.tables e below (T2.setTop (mkF m 38 #[.val (.ref t), .unset] [(.ref b2), (.ref b2)])) _
    refine XS.aloadN X2.here hx rfl (hb hby d_jdk_40_method_47_38) rfl rfl ?_
    show Steps p.tables e below (T2.setTop (mkF m 39 #[.val (.ref t), .unset] [(.ref t), (.ref b2), (.ref b2)])) _
    refine XT.iconstV X2.here hx rfl (0 : Int32) (hb hby d_jdk_40_method_47_39) (by decide) ?_
    show Steps p.tables e below (T2.setTop (mkF m 40 #[.val (.ref t), .unset] [(.int (0 : Int32)), (.ref t), (.ref b2), (.ref b2)])) _
    refine X2.aaload hx (j := (0 : Int32)) (v := (.ref x)) (by rw [e2]; exact Ar6.1) (State.isArrayOf_alike hZ.alike Ar6.2.1) rfl Ar6.2.2 hin6 hat6 (g := (mkF m 40 #[.val (.ref t), .unset] [(.int (0 : Int32)), (.ref t), (.ref b2), (.ref b2)])) rfl rfl (hb hby d_jdk_40_method_47_40) _ ?_
    show Steps p.tables e below (T2.setTop (mkF m 41 #[.val (.ref t), .unset] [(.ref x), (.ref b2), (.ref b2)])) _
    refine st7.trans ?_
    exact k_
  obtain ⟨fs, hr, hrun, hended, hW, hsame⟩ := X7.leave (v := (some (.ref b2))) (fun h => by rw [Bd.returns] at h; cases h)
  refine ⟨_, _, S9 _ ((retOut X7 hx Bd.returns rfl (Or.inr (Or.inr (Or.inr (Or.inr ⟨rfl, rfl, rfl⟩)))) (hb hby d_jdk_40_method_47_44) hr)), hrun, hended, _, _, rfl, ?_, ⟨_, rfl⟩, hW, hsame.mono (by decide) (by decide)⟩
  show Q_loa Z t kt x a_EMPTY h0 n0 _ T7.heap _
  exact ⟨b2, rfl, N7, K7, p7_0, (by omega)⟩
def Q_lc0 (Z : State) (a1 : Nat) (a_EMPTY_LIST : Nat) (h0 : Heap) (n0 : Nat) (v : Option Value) (h : Heap) (L : List Loc) : Prop := v = some (.ref a_EMPTY_LIST) ∧ Fr n0 L ∧ h = h0
theorem ef_lc0 (m : MethodId) (a1 : Nat) (a_EMPTY_LIST : Nat) : entryFrame m #[(.ref a1)] 2 = (mkF m 0 #[.val (.ref a1), .unset] []) := by first | (simp [entryFrame, mkF, argsToLocals, Value.category]; done) | rfl
set_option maxRecDepth 65536 in
set_option maxHeartbeats 40000000 in
theorem rm_lc0 (l : Launch) (Z : State) (a0 : Array Value) (hw : ∀ d ∈ tables_1, d.before a0 Z = true) (ws : List Jvm.Cond) (a1 : Nat) (a_EMPTY_LIST : Nat) (h0 : Heap) (n0 : Nat) (Z0 : n0 ≤ h0.size) (O0 : Old Z n0 h0) (E1 : Exa Z h0 a1 "java/util/ArrayList") (F3 : Fld Z h0 a1 "java/util/ArrayList" "size" "I" (.int (0 : Int32))) (S_EMPTY_LIST : Sta Z Z.heap "java/util/ImmutableCollections" "EMPTY_LIST" "Ljava/util/ImmutableCollections$ListN;" (.ref a_EMPTY_LIST)) :
    MetFree l (⟨"java/util/ImmutableCollections", "listCopy", "(Ljava/util/Collection;)Ljava/util/List;"⟩ : MethodName) (head1 (Jvm.Cond.code (⟨"java/util/ImmutableCollections", "listCopy", "(Ljava/util/Collection;)Ljava/util/List;"⟩ : MethodName) jdk_56_method_3_code 2 (some (.object "java/util/List")) :: ws) ({ frames := 1, cells := 0, slots := 0, locals := 12 } : Room)) (fun a_ U_ => a_ = #[(.ref a1)] ∧ Z.Warmed39 U_.vm ∧ U_.heap = h0) (fun _ _ _ _ _ => True) (fun _ U_ o_ U'_ => ∃ v_ L_, o_ = .returned v_ ∧ Q_lc0 Z a1 a_EMPTY_LIST h0 n0 v_ U'_.heap L_ ∧ FrameEnd U_ o_ U'_ L_ ({ frames := 1, cells := 0, slots := 0, locals := 12 } : Room).cells ({ frames := 1, cells := 0, slots := 0, locals := 12 } : Room).slots) := by
  refine MetFree.of_bodySF (plainFor_of_name pn4) hisR ?_
  intro p e s m args below meth c s₁ Bd hml0 hP hK
  obtain ⟨rfl, hZ, hh⟩ := hP
  have hx := Bd.exec
  have hby := Bd.bytes
  have hml : c.maxLocals = 2 := hml0
  have hown : s.vm.findClass "java/util/ImmutableCollections" = some m.cls := findClass_of_methodNamed Bd.named
  have hnm := (name_of_methodNamed Bd.named Bd.method).1
  have X0 : Stand p l e ({ frames := 1, cells := 0, slots := 0, locals := 12 } : Room) s m #[(.ref a1)] below meth c s₁ [] 0 0 := Stand.of_body Bd
  have e0 : s₁.heap = h0 := by rw [← hh, Bd.state]; rfl
  have N0 := Fr.nil n0
  have oz : Z.heap.size = n0 := O0.1
  have S0 : ∀ t_, Steps p.tables e below (s₁.setTop (mkF m 0 #[.val (.ref a1), .unset] [])) t_ → Steps p.tables e below (s₁.setTop (entryFrame m #[(.ref a1)] 2)) t_ := fun t_ k_ => castTop (ef_lc0 m a1 a_EMPTY_LIST) k_
  have lt_a1 : (a1 : Nat) < (h0.size : Nat) := E1.lt
  obtain ⟨T1, X1, e1, st1⟩ := instNo X0 hx hZ hown (tw77 hw) e0 E1 (own_NSno (tw157 hw) (tw234 hw) (NS.step (tw157 hw) (NS.step (tw158 hw) (NS.step (tw81 hw) (own_NSroot (tw82 hw) (tw234 hw) (by decide)) (by decide)) (by decide)) (by decide)) (by decide)) (g := (mkF m 1 #[.val (.ref a1), .unset] [(.ref a1)])) rfl rfl (hb hby d_jdk_56_method_3_1)
  obtain ⟨T2, X2, e2, st2⟩ := instNo X1 hx hZ hown (tw83 hw) e1 E1 (NS.no (tw157 hw) (tw78 hw) (NS.step (tw157 hw) (NS.step (tw158 hw) (NS.step (tw81 hw) (NS.root (tw82 hw) (tw78 hw) (by decide)) (by decide)) (by decide)) (by decide)) (by decide)) (g := (mkF m 8 #[.val (.ref a1), .unset] [(.ref a1)])) rfl rfl (hb hby d_jdk_56_method_3_8)
  obtain ⟨cq3, kq3, q3a, q3b, q3c⟩ := isOf hZ e2 E1
  obtain ⟨_, _, ⟨T3, L3, k3, n3⟩, -, X3, ⟨Lc3, hQ3, l3, y3, z3⟩, st3⟩ := X2.interfaceBack hx (xi := (⟨"java/util/Collection", "isEmpty", "()Z"⟩ : MethodName)) (y := (⟨"java/util/ArrayList", "isEmpty", "()Z"⟩ : MethodName)) hown (mvT hZ (tw159 hw)) (mvT hZ (tw160 hw)) (mvT hZ (tw161 hw)) (mvT hZ (tw162 hw)) (mvT hZ (tw163 hw)) (mvT hZ (tw164 hw)) (mvT hZ (tw165 hw)) (mvT hZ (tw166 hw)) (by decide) (backOf (W := 0) (rm_ie0 l Z a0 hw [] a1 h0 n0 (by omega) O0 F3) hZ (tw167 hw) (tw116 hw) (by decide) (by decide)) q3a q3b q3c (g := (mkF m 32 #[.val (.ref a1), .unset] [(.ref a1)])) rfl (by rw [hml]; rfl) (Steps.refl _) (argsL := []) (rest := []) (lenOf pd13 rfl) rfl (by show 2 * 0 + _ ≤ _; exact Nat.le_of_eq rfl) (hb hby d_jdk_56_method_3_32) (fun _ _ => ⟨rfl, e2, (by decide : 0 + 0 ≤ _), (by decide : 0 + 0 ≤ _)⟩)
  dsimp only [Pt.U, Pt.locs, Pt.cells, Pt.slots] at X3 l3 y3 z3 st3 hQ3
  subst l3 y3 z3
  obtain ⟨rfl, N3q, Kq3⟩ := hQ3
  have N3 := Fr.app N0 N3q
  obtain ⟨_, _, ⟨T4, L4, k4, n4⟩, -, X4, ⟨Lc4, hQ4, l4, y4, z4⟩, st4⟩ := Jvm.LawKit.callS X3 hx (y := (⟨"java/util/List", "of", "()Ljava/util/List;"⟩ : MethodName)) hown (mvT hZ (tw170 hw)) (mvT hZ (tw51 hw)) (mvT hZ (tw52 hw)) (mvT hZ (tw53 hw)) (by decide) (backOf (W := 0) (rm_lof l Z a0 hw [] a_EMPTY_LIST h0 n0 (by omega) O0 S_EMPTY_LIST) hZ (tw53 hw) (tw52 hw) (by decide) (by decide)) (g := (mkF m 40 #[.val (.ref a1), .unset] [])) rfl (by rw [hml]; rfl) (argsL := []) (rest := []) (lenOf pd14 rfl) rfl (by show 2 * 0 + _ ≤ _; exact Nat.le_of_eq rfl) (hb hby d_jdk_56_method_3_40) (fun _ _ => ⟨rfl, Kq3, (by decide : 0 + 0 ≤ _), (by decide : 0 + 0 ≤ _)⟩)
  dsimp only [Pt.U, Pt.locs, Pt.cells, Pt.slots] at X4 l4 y4 z4 st4 hQ4
  subst l4 y4 z4
  obtain ⟨rfl, N4q, Kq4⟩ := hQ4
  have N4 := Fr.app N3 N4q
  have S5 : ∀ t_, Steps p.tables e below (T4.setTop (mkF m 43 #[.val (.ref a1), .unset] [(.ref a_EMPTY_LIST)])) t_ → Steps p.tables e below (s₁.setTop (entryFrame m #[(.ref a1)] 2)) t_ := by
    intro t_ k_
    refine S0 t_ ?_
    show Steps p.tables e below (s₁.setTop (mkF m 0 #[.val (.ref a1), .unset] [])) _
    refine XS.aloadN X0.here hx rfl (hb hby d_jdk_56_method_3_0) rfl rfl ?_
    show Steps p.tables e below (s₁.setTop (mkF m 1 #[.val (.ref a1), .unset] [(.ref a1)])) _
    refine st1 _ ?_
    show Steps p.tables e below (T1.setTop (mkF m 4 #[.val (.ref a1), .unset] [(.int (0 : Int32))])) _
    refine XS.ifNo X1.here hx rfl (hb hby d_jdk_56_method_3_4) rfl (by decide) ?_
    show Steps p.tables e below (T1.setTop (mkF m 7 #[.val (.ref a1), .unset] [])) _
    refine XS.aloadN X1.here hx rfl (hb hby d_jdk_56_method_3_7) rfl rfl ?_
    show Steps p.tables e below (T1.setTop (mkF m 8 #[.val (.ref a1), .unset] [(.ref a1)])) _
    refine st2 _ ?_
    show Steps p.tables e below (T2.setTop (mkF m 11 #[.val (.ref a1), .unset] [(.int (0 : Int32))])) _
    refine XS.ifYes X2.here hx rfl (pc0 := 11) (pc' := 31) rfl (hb hby d_jdk_56_method_3_11) rfl (by decide) (by decide) (by decide) ?_
    show Steps p.tables e below (T2.setTop (mkF m 31 #[.val (.ref a1), .unset] [])) _
    refine XS.aloadN X2.here hx rfl (hb hby d_jdk_56_method_3_31) rfl rfl ?_
    show Steps p.tables e below (T2.setTop (mkF m 32 #[.val (.ref a1), .unset] [(.ref a1)])) _
    refine st3.trans ?_
    show Steps p.tables e below (T3.setTop (mkF m 37 #[.val (.ref a1), .unset] [(.int (1 : Int32))])) _
    refine XS.ifNo X3.here hx rfl (hb hby d_jdk_56_method_3_37) rfl (by decide) ?_
    show Steps p.tables e below (T3.setTop (mkF m 40 #[.val (.ref a1), .unset] [])) _
    refine st4 _ ?_
    exact k_
  obtain ⟨fs, hr, hrun, hended, hW, hsame⟩ := X4.leave (v := (some (.ref a_EMPTY_LIST))) (fun h => by rw [Bd.returns] at h; cases h)
  refine ⟨_, _, S5 _ ((retOut X4 hx Bd.returns rfl (Or.inr (Or.inr (Or.inr (Or.inr ⟨rfl, rfl, rfl⟩)))) (hb hby d_jdk_56_method_3_43) hr)), hrun, hended, _, _, rfl, ?_, ⟨_, rfl⟩, hW, hsame.mono (by decide) (by decide)⟩
  show Q_lc0 Z a1 a_EMPTY_LIST h0 n0 _ T4.heap _
  rw [Kq4]
  exact ⟨rfl, N4, rfl⟩
def Q_lc1 (Z : State) (a1 : Nat) (b : Nat) (x : Nat) (kb : ClassId) (mO : Nat) (a_EMPTY : Nat) (h0 : Heap) (n0 : Nat) (v : Option Value) (h : Heap) (L : List Loc) : Prop := ∃ (r : Nat), v = some (.ref r) ∧ Fr n0 L ∧ Keep h0 h [] ∧ (Exa Z h r "java/util/ImmutableCollections$List12") ∧ (h0.size ≤ r)
theorem ef_lc1 (m : MethodId) (a1 : Nat) (b : Nat) (x : Nat) (kb : ClassId) (mO : Nat) (a_EMPTY : Nat) : entryFrame m #[(.ref a1)] 2 = (mkF m 0 #[.val (.ref a1), .unset] []) := by first | (simp [entryFrame, mkF, argsToLocals, Value.category]; done) | rfl
set_option maxRecDepth 65536 in
set_option maxHeartbeats 40000000 in
theorem rm_lc1 (l : Launch) (Z : State) (a0 : Array Value) (hw : ∀ d ∈ tables_1, d.before a0 Z = true) (ws : List Jvm.Cond) (a1 : Nat) (b : Nat) (x : Nat) (kb : ClassId) (mO : Nat) (a_EMPTY : Nat) (h0 : Heap) (n0 : Nat) (Z0 : n0 ≤ h0.size) (O0 : Old Z n0 h0) (E1 : Exa Z h0 a1 "java/util/ArrayList") (F2 : Fld Z h0 a1 "java/util/ArrayList" "elementData" "[Ljava/lang/Object;" (.ref b)) (F3 : Fld Z h0 a1 "java/util/ArrayList" "size" "I" (.int (1 : Int32))) (A1 : Arv Z h0 b kb (.object "java/lang/Object") (10 : Int32) [(.ref x), .null, .null, .null, .null, .null, .null, .null, .null, .null] .null) (Eb : Exa Z h0 b "[Ljava/lang/Object;") (Ex : Exa Z h0 x "java/lang/String") (hmir : own_Mir Z "[Ljava/lang/Object;" mO) (S_EMPTY : Sta Z Z.heap "java/util/ImmutableCollections" "EMPTY" "Ljava/lang/Object;" (.ref a_EMPTY)) :
    MetFree l (⟨"java/util/ImmutableCollections", "listCopy", "(Ljava/util/Collection;)Ljava/util/List;"⟩ : MethodName) (head1 (Jvm.Cond.code (⟨"java/util/ImmutableCollections", "listCopy", "(Ljava/util/Collection;)Ljava/util/List;"⟩ : MethodName) jdk_56_method_3_code 2 (some (.object "java/util/List")) :: ws) ({ frames := 6, cells := 2, slots := 3, locals := 80 } : Room)) (fun a_ U_ => a_ = #[(.ref a1)] ∧ Z.Warmed39 U_.vm ∧ U_.heap = h0) (fun _ _ _ _ _ => True) (fun _ U_ o_ U'_ => ∃ v_ L_, o_ = .returned v_ ∧ Q_lc1 Z a1 b x kb mO a_EMPTY h0 n0 v_ U'_.heap L_ ∧ FrameEnd U_ o_ U'_ L_ ({ frames := 6, cells := 2, slots := 3, locals := 80 } : Room).cells ({ frames := 6, cells := 2, slots := 3, locals := 80 } : Room).slots) := by
  refine MetFree.of_bodySF (plainFor_of_name pn4) hisR ?_
  intro p e s m args below meth c s₁ Bd hml0 hP hK
  obtain ⟨rfl, hZ, hh⟩ := hP
  have hx := Bd.exec
  have hby := Bd.bytes
  have hml : c.maxLocals = 2 := hml0
  have hown : s.vm.findClass "java/util/ImmutableCollections" = some m.cls := findClass_of_methodNamed Bd.named
  have hnm := (name_of_methodNamed Bd.named Bd.method).1
  have X0 : Stand p l e ({ frames := 6, cells := 2, slots := 3, locals := 80 } : Room) s m #[(.ref a1)] below meth c s₁ [] 0 0 := Stand.of_body Bd
  have e0 : s₁.heap = h0 := by rw [← hh, Bd.state]; rfl
  have N0 := Fr.nil n0
  have oz : Z.heap.size = n0 := O0.1
  have S0 : ∀ t_, Steps p.tables e below (s₁.setTop (mkF m 0 #[.val (.ref a1), .unset] [])) t_ → Steps p.tables e below (s₁.setTop (entryFrame m #[(.ref a1)] 2)) t_ := fun t_ k_ => castTop (ef_lc1 m a1 b x kb mO a_EMPTY) k_
  have K0 := Keep.refl h0 []
  have lt_a1 : (a1 : Nat) < (h0.size : Nat) := E1.lt
  have lt_b : (b : Nat) < (h0.size : Nat) := A1.lt
  have lt_x : (x : Nat) < (h0.size : Nat) := Ex.lt
  obtain ⟨T1, X1, e1, st1⟩ := instNo X0 hx hZ hown (tw77 hw) e0 E1 (own_NSno (tw157 hw) (tw234 hw) (NS.step (tw157 hw) (NS.step (tw158 hw) (NS.step (tw81 hw) (own_NSroot (tw82 hw) (tw234 hw) (by decide)) (by decide)) (by decide)) (by decide)) (by decide)) (g := (mkF m 1 #[.val (.ref a1), .unset] [(.ref a1)])) rfl rfl (hb hby d_jdk_56_method_3_1)
  obtain ⟨T2, X2, e2, st2⟩ := instNo X1 hx hZ hown (tw83 hw) e1 E1 (NS.no (tw157 hw) (tw78 hw) (NS.step (tw157 hw) (NS.step (tw158 hw) (NS.step (tw81 hw) (NS.root (tw82 hw) (tw78 hw) (by decide)) (by decide)) (by decide)) (by decide)) (by decide)) (g := (mkF m 8 #[.val (.ref a1), .unset] [(.ref a1)])) rfl rfl (hb hby d_jdk_56_method_3_8)
  obtain ⟨cq3, kq3, q3a, q3b, q3c⟩ := isOf hZ e2 E1
  obtain ⟨_, _, ⟨T3, L3, k3, n3⟩, -, X3, ⟨Lc3, hQ3, l3, y3, z3⟩, st3⟩ := X2.interfaceBack hx (xi := (⟨"java/util/Collection", "isEmpty", "()Z"⟩ : MethodName)) (y := (⟨"java/util/ArrayList", "isEmpty", "()Z"⟩ : MethodName)) hown (mvT hZ (tw159 hw)) (mvT hZ (tw160 hw)) (mvT hZ (tw161 hw)) (mvT hZ (tw162 hw)) (mvT hZ (tw163 hw)) (mvT hZ (tw164 hw)) (mvT hZ (tw165 hw)) (mvT hZ (tw166 hw)) (by decide) (backOf (W := 0) (rm_ie1 l Z a0 hw [] a1 h0 n0 (by omega) O0 F3) hZ (tw167 hw) (tw116 hw) (by decide) (by decide)) q3a q3b q3c (g := (mkF m 32 #[.val (.ref a1), .unset] [(.ref a1)])) rfl (by rw [hml]; rfl) (Steps.refl _) (argsL := []) (rest := []) (lenOf pd13 rfl) rfl (by show 2 * 0 + _ ≤ _; exact Nat.le_of_eq rfl) (hb hby d_jdk_56_method_3_32) (fun _ _ => ⟨rfl, e2, (by decide : 0 + 0 ≤ _), (by decide : 0 + 0 ≤ _)⟩)
  dsimp only [Pt.U, Pt.locs, Pt.cells, Pt.slots] at X3 l3 y3 z3 st3 hQ3
  subst l3 y3 z3
  obtain ⟨rfl, N3q, Kq3⟩ := hQ3
  have N3 := Fr.app N0 N3q
  obtain ⟨cq4, kq4, q4a, q4b, q4c⟩ := isOf hZ Kq3 E1
  obtain ⟨_, _, ⟨T4, L4, k4, n4⟩, -, X4, ⟨Lc4, hQ4, l4, y4, z4⟩, st4⟩ := X3.interfaceBack hx (xi := (⟨"java/util/Collection", "toArray", "()[Ljava/lang/Object;"⟩ : MethodName)) (y := (⟨"java/util/ArrayList", "toArray", "()[Ljava/lang/Object;"⟩ : MethodName)) hown (mvT hZ (tw200 hw)) (mvT hZ (tw201 hw)) (mvT hZ (tw202 hw)) (mvT hZ (tw203 hw)) (mvT hZ (tw204 hw)) (mvT hZ (tw205 hw)) (mvT hZ (tw206 hw)) (mvT hZ (tw166 hw)) (by decide) (backOf (W := 0) (rm_toa l Z a0 hw [] a1 b x kb mO h0 n0 (by omega) O0 E1 F2 F3 A1 Eb Ex (by first | assumption | omega | decide)) hZ (tw207 hw) (tw116 hw) (by decide) (by decide)) q4a q4b q4c (g := (mkF m 45 #[.val (.ref a1), .unset] [(.ref a1)])) rfl (by rw [hml]; rfl) (Steps.refl _) (argsL := []) (rest := []) (lenOf pd7 rfl) rfl (by show 2 * 0 + _ ≤ _; exact Nat.le_of_eq rfl) (hb hby d_jdk_56_method_3_45) (fun _ _ => ⟨rfl, Kq3, (by decide : 0 + 1 ≤ _), (by decide : 0 + 1 ≤ _)⟩)
  dsimp only [Pt.U, Pt.locs, Pt.cells, Pt.slots] at X4 l4 y4 z4 st4 hQ4
  subst l4 y4 z4
  obtain ⟨t5, kt6, rfl, N4q, Kq4, p4_0, p4_1⟩ := hQ4
  have N4 := Fr.app N3 N4q
  have z4 := Kq4.1
  have K4 := K0.trans Kq4 all0
  have O4 := O0.keep Kq4 all0
  have lq7 : (t5 : Nat) < (T4.heap.size : Nat) := p4_0.lt
  have bq4 := p4_1
  obtain ⟨_, _, ⟨T8, L8, k8, n8⟩, -, X8, ⟨Lc8, hQ8, l8, y8, z8⟩, st8⟩ := Jvm.LawKit.callS X4 hx (y := (⟨"java/util/List", "of", "([Ljava/lang/Object;)Ljava/util/List;"⟩ : MethodName)) hown (mvT hZ (tw230 hw)) (mvT hZ (tw231 hw)) (mvT hZ (tw52 hw)) (mvT hZ (tw232 hw)) (by decide) (backOf (W := 0) (rm_loa l Z a0 hw [] t5 kt6 x a_EMPTY T4.heap n0 (by omega) O4 p4_0 S_EMPTY) hZ (tw232 hw) (tw52 hw) (by decide) (by decide)) (g := (mkF m 50 #[.val (.ref a1), .unset] [(.ref t5)])) rfl (by rw [hml]; rfl) (argsL := [(.ref t5)]) (rest := []) (lenOf pd15 rfl) rfl (by show 2 * 0 + _ ≤ _; exact Nat.le_of_eq rfl) (hb hby d_jdk_56_method_3_50) (fun _ _ => ⟨rfl, rfl, (by decide : 1 + 1 ≤ _), (by decide : 1 + 2 ≤ _)⟩)
  dsimp only [Pt.U, Pt.locs, Pt.cells, Pt.slots] at X8 l8 y8 z8 st8 hQ8
  subst l8 y8 z8
  obtain ⟨b9, rfl, N8q, Kq8, p8_0, p8_1⟩ := hQ8
  have N8 := Fr.app N4 N8q
  have z8 := Kq8.1
  have K8 := K4.trans Kq8 all0
  have O8 := O4.keep Kq8 all0
  have lq10 : (b9 : Nat) < (T8.heap.size : Nat) := p8_0.lt
  have bq8 := p8_1
  have S11 : ∀ t_, Steps p.tables e below (T8.setTop (mkF m 53 #[.val (.ref a1), .unset] [(.ref b9)])) t_ → Steps p.tables e below (s₁.setTop (entryFrame m #[(.ref a1)] 2)) t_ := by
    intro t_ k_
    refine S0 t_ ?_
    show Steps p.tables e below (s₁.setTop (mkF m 0 #[.val (.ref a1), .unset] [])) _
    refine XS.aloadN X0.here hx rfl (hb hby d_jdk_56_method_3_0) rfl rfl ?_
    show Steps p.tables e below (s₁.setTop (mkF m 1 #[.val (.ref a1), .unset] [(.ref a1)])) _
    refine st1 _ ?_
    show Steps p.tables e below (T1.setTop (mkF m 4 #[.val (.ref a1), .unset] [(.int (0 : Int32))])) _
    refine XS.ifNo X1.here hx rfl (hb hby d_jdk_56_method_3_4) rfl (by decide) ?_
    show Steps p.tables e below (T1.setTop (mkF m 7 #[.val (.ref a1), .unset] [])) _
    refine XS.aloadN X1.here hx rfl (hb hby d_jdk_56_method_3_7) rfl rfl ?_
    show Steps p.tables e below (T1.setTop (mkF m 8 #[.val (.ref a1), .unset] [(.ref a1)])) _
    refine st2 _ ?_
    show Steps p.tables e below (T2.setTop (mkF m 11 #[.val (.ref a1), .unset] [(.int (0 : Int32))])) _
    refine XS.ifYes X2.here hx rfl (pc0 := 11) (pc' := 31) rfl (hb hby d_jdk_56_method_3_11) rfl (by decide) (by decide) (by decide) ?_
    show Steps p.tables e below (T2.setTop (mkF m 31 #[.val (.ref a1), .unset] [])) _
    refine XS.aloadN X2.here hx rfl (hb hby d_jdk_56_method_3_31) rfl rfl ?_
    show Steps p.tables e below (T2.setTop (mkF m 32 #[.val (.ref a1), .unset] [(.ref a1)])) _
    refine st3.trans ?_
    show Steps p.tables e below (T3.setTop (mkF m 37 #[.val (.ref a1), .unset] [(.int (0 : Int32))])) _
    refine XS.ifYes X3.here hx rfl (pc0 := 37) (pc' := 44) rfl (hb hby d_jdk_56_method_3_37) rfl (by decide) (by decide) (by decide) ?_
    show Steps p.tables e below (T3.setTop (mkF m 44 #[.val (.ref a1), .unset] [])) _
    refine XS.aloadN X3.here hx rfl (hb hby d_jdk_56_method_3_44) rfl rfl ?_
    show Steps p.tables e below (T3.setTop (mkF m 45 #[.val (.ref a1), .unset] [(.ref a1)])) _
    refine st4.trans ?_
    show Steps p.tables e below (T4.setTop (mkF m 50 #[.val (.ref a1), .unset] [(.ref t5)])) _
    refine st8 _ ?_
    exact k_
  obtain ⟨fs, hr, hrun, hended, hW, hsame⟩ := X8.leave (v := (some (.ref b9))) (fun h => by rw [Bd.returns] at h; cases h)
  refine ⟨_, _, S11 _ ((retOut X8 hx Bd.returns rfl (Or.inr (Or.inr (Or.inr (Or.inr ⟨rfl, rfl, rfl⟩)))) (hb hby d_jdk_56_method_3_53) hr)), hrun, hended, _, _, rfl, ?_, ⟨_, rfl⟩, hW, hsame.mono (by decide) (by decide)⟩
  show Q_lc1 Z a1 b x kb mO a_EMPTY h0 n0 _ T8.heap _
  exact ⟨b9, rfl, N8, K8, p8_0, (by omega)⟩
def Q_co0 (Z : State) (a1 : Nat) (a_EMPTY_LIST : Nat) (h0 : Heap) (n0 : Nat) (v : Option Value) (h : Heap) (L : List Loc) : Prop := v = some (.ref a_EMPTY_LIST) ∧ Fr n0 L ∧ h = h0
theorem ef_co0 (m : MethodId) (a1 : Nat) (a_EMPTY_LIST : Nat) : entryFrame m #[(.ref a1)] 1 = (mkF m 0 #[.val (.ref a1)] []) := by first | (simp [entryFrame, mkF, argsToLocals, Value.category]; done) | rfl
set_option maxRecDepth 65536 in
set_option maxHeartbeats 40000000 in
theorem rm_co0 (l : Launch) (Z : State) (a0 : Array Value) (hw : ∀ d ∈ tables_1, d.before a0 Z = true) (ws : List Jvm.Cond) (a1 : Nat) (a_EMPTY_LIST : Nat) (h0 : Heap) (n0 : Nat) (Z0 : n0 ≤ h0.size) (O0 : Old Z n0 h0) (E1 : Exa Z h0 a1 "java/util/ArrayList") (F3 : Fld Z h0 a1 "java/util/ArrayList" "size" "I" (.int (0 : Int32))) (S_EMPTY_LIST : Sta Z Z.heap "java/util/ImmutableCollections" "EMPTY_LIST" "Ljava/util/ImmutableCollections$ListN;" (.ref a_EMPTY_LIST)) :
    MetFree l (⟨"java/util/List", "copyOf", "(Ljava/util/Collection;)Ljava/util/List;"⟩ : MethodName) (head1 (Jvm.Cond.code (⟨"java/util/List", "copyOf", "(Ljava/util/Collection;)Ljava/util/List;"⟩ : MethodName) jdk_40_method_48_code 1 (some (.object "java/util/List")) :: ws) ({ frames := 2, cells := 0, slots := 0, locals := 25 } : Room)) (fun a_ U_ => a_ = #[(.ref a1)] ∧ Z.Warmed39 U_.vm ∧ U_.heap = h0) (fun _ _ _ _ _ => True) (fun _ U_ o_ U'_ => ∃ v_ L_, o_ = .returned v_ ∧ Q_co0 Z a1 a_EMPTY_LIST h0 n0 v_ U'_.heap L_ ∧ FrameEnd U_ o_ U'_ L_ ({ frames := 2, cells := 0, slots := 0, locals := 25 } : Room).cells ({ frames := 2, cells := 0, slots := 0, locals := 25 } : Room).slots) := by
  refine MetFree.of_bodySF (plainFor_of_name pn2) hisR ?_
  intro p e s m args below meth c s₁ Bd hml0 hP hK
  obtain ⟨rfl, hZ, hh⟩ := hP
  have hx := Bd.exec
  have hby := Bd.bytes
  have hml : c.maxLocals = 1 := hml0
  have hown : s.vm.findClass "java/util/List" = some m.cls := findClass_of_methodNamed Bd.named
  have hnm := (name_of_methodNamed Bd.named Bd.method).1
  have X0 : Stand p l e ({ frames := 2, cells := 0, slots := 0, locals := 25 } : Room) s m #[(.ref a1)] below meth c s₁ [] 0 0 := Stand.of_body Bd
  have e0 : s₁.heap = h0 := by rw [← hh, Bd.state]; rfl
  have N0 := Fr.nil n0
  have oz : Z.heap.size = n0 := O0.1
  have S0 : ∀ t_, Steps p.tables e below (s₁.setTop (mkF m 0 #[.val (.ref a1)] [])) t_ → Steps p.tables e below (s₁.setTop (entryFrame m #[(.ref a1)] 1)) t_ := fun t_ k_ => castTop (ef_co0 m a1 a_EMPTY_LIST) k_
  have lt_a1 : (a1 : Nat) < (h0.size : Nat) := E1.lt
  obtain ⟨_, _, ⟨T1, L1, k1, n1⟩, -, X1, ⟨Lc1, hQ1, l1, y1, z1⟩, st1⟩ := Jvm.LawKit.callS X0 hx (y := (⟨"java/util/ImmutableCollections", "listCopy", "(Ljava/util/Collection;)Ljava/util/List;"⟩ : MethodName)) hown (mvT hZ (tw74 hw)) (mvT hZ (tw75 hw)) (mvT hZ (tw55 hw)) (mvT hZ (tw76 hw)) (by decide) (backOf (W := 0) (rm_lc0 l Z a0 hw [] a1 a_EMPTY_LIST h0 n0 (by omega) O0 E1 F3 S_EMPTY_LIST) hZ (tw76 hw) (tw55 hw) (by decide) (by decide)) (g := (mkF m 1 #[.val (.ref a1)] [(.ref a1)])) rfl (by rw [hml]; rfl) (argsL := [(.ref a1)]) (rest := []) (lenOf pd3 rfl) rfl (by show 2 * 0 + _ ≤ _; exact Nat.le_of_eq rfl) (hb hby d_jdk_40_method_48_1) (fun _ _ => ⟨rfl, e0, (by decide : 0 + 0 ≤ _), (by decide : 0 + 0 ≤ _)⟩)
  dsimp only [Pt.U, Pt.locs, Pt.cells, Pt.slots] at X1 l1 y1 z1 st1 hQ1
  subst l1 y1 z1
  obtain ⟨rfl, N1q, Kq1⟩ := hQ1
  have N1 := Fr.app N0 N1q
  have S2 : ∀ t_, Steps p.tables e below (T1.setTop (mkF m 4 #[.val (.ref a1)] [(.ref a_EMPTY_LIST)])) t_ → Steps p.tables e below (s₁.setTop (entryFrame m #[(.ref a1)] 1)) t_ := by
    intro t_ k_
    refine S0 t_ ?_
    show Steps p.tables e below (s₁.setTop (mkF m 0 #[.val (.ref a1)] [])) _
    refine XS.aloadN X0.here hx rfl (hb hby d_jdk_40_method_48_0) rfl rfl ?_
    show Steps p.tables e below (s₁.setTop (mkF m 1 #[.val (.ref a1)] [(.ref a1)])) _
    refine st1 _ ?_
    exact k_
  obtain ⟨fs, hr, hrun, hended, hW, hsame⟩ := X1.leave (v := (some (.ref a_EMPTY_LIST))) (fun h => by rw [Bd.returns] at h; cases h)
  refine ⟨_, _, S2 _ ((retOut X1 hx Bd.returns rfl (Or.inr (Or.inr (Or.inr (Or.inr ⟨rfl, rfl, rfl⟩)))) (hb hby d_jdk_40_method_48_4) hr)), hrun, hended, _, _, rfl, ?_, ⟨_, rfl⟩, hW, hsame.mono (by decide) (by decide)⟩
  show Q_co0 Z a1 a_EMPTY_LIST h0 n0 _ T1.heap _
  rw [Kq1]
  exact ⟨rfl, N1, rfl⟩
def Q_co1 (Z : State) (a1 : Nat) (b : Nat) (x : Nat) (kb : ClassId) (mO : Nat) (a_EMPTY : Nat) (h0 : Heap) (n0 : Nat) (v : Option Value) (h : Heap) (L : List Loc) : Prop := ∃ (r : Nat), v = some (.ref r) ∧ Fr n0 L ∧ Keep h0 h [] ∧ (Exa Z h r "java/util/ImmutableCollections$List12") ∧ (h0.size ≤ r)
theorem ef_co1 (m : MethodId) (a1 : Nat) (b : Nat) (x : Nat) (kb : ClassId) (mO : Nat) (a_EMPTY : Nat) : entryFrame m #[(.ref a1)] 1 = (mkF m 0 #[.val (.ref a1)] []) := by first | (simp [entryFrame, mkF, argsToLocals, Value.category]; done) | rfl
set_option maxRecDepth 65536 in
set_option maxHeartbeats 40000000 in
theorem rm_co1 (l : Launch) (Z : State) (a0 : Array Value) (hw : ∀ d ∈ tables_1, d.before a0 Z = true) (ws : List Jvm.Cond) (a1 : Nat) (b : Nat) (x : Nat) (kb : ClassId) (mO : Nat) (a_EMPTY : Nat) (h0 : Heap) (n0 : Nat) (Z0 : n0 ≤ h0.size) (O0 : Old Z n0 h0) (E1 : Exa Z h0 a1 "java/util/ArrayList") (F2 : Fld Z h0 a1 "java/util/ArrayList" "elementData" "[Ljava/lang/Object;" (.ref b)) (F3 : Fld Z h0 a1 "java/util/ArrayList" "size" "I" (.int (1 : Int32))) (A1 : Arv Z h0 b kb (.object "java/lang/Object") (10 : Int32) [(.ref x), .null, .null, .null, .null, .null, .null, .null, .null, .null] .null) (Eb : Exa Z h0 b "[Ljava/lang/Object;") (Ex : Exa Z h0 x "java/lang/String") (hmir : own_Mir Z "[Ljava/lang/Object;" mO) (S_EMPTY : Sta Z Z.heap "java/util/ImmutableCollections" "EMPTY" "Ljava/lang/Object;" (.ref a_EMPTY)) :
    MetFree l (⟨"java/util/List", "copyOf", "(Ljava/util/Collection;)Ljava/util/List;"⟩ : MethodName) (head1 (Jvm.Cond.code (⟨"java/util/List", "copyOf", "(Ljava/util/Collection;)Ljava/util/List;"⟩ : MethodName) jdk_40_method_48_code 1 (some (.object "java/util/List")) :: ws) ({ frames := 7, cells := 2, slots := 3, locals := 93 } : Room)) (fun a_ U_ => a_ = #[(.ref a1)] ∧ Z.Warmed39 U_.vm ∧ U_.heap = h0) (fun _ _ _ _ _ => True) (fun _ U_ o_ U'_ => ∃ v_ L_, o_ = .returned v_ ∧ Q_co1 Z a1 b x kb mO a_EMPTY h0 n0 v_ U'_.heap L_ ∧ FrameEnd U_ o_ U'_ L_ ({ frames := 7, cells := 2, slots := 3, locals := 93 } : Room).cells ({ frames := 7, cells := 2, slots := 3, locals := 93 } : Room).slots) := by
  refine MetFree.of_bodySF (plainFor_of_name pn2) hisR ?_
  intro p e s m args below meth c s₁ Bd hml0 hP hK
  obtain ⟨rfl, hZ, hh⟩ := hP
  have hx := Bd.exec
  have hby := Bd.bytes
  have hml : c.maxLocals = 1 := hml0
  have hown : s.vm.findClass "java/util/List" = some m.cls := findClass_of_methodNamed Bd.named
  have hnm := (name_of_methodNamed Bd.named Bd.method).1
  have X0 : Stand p l e ({ frames := 7, cells := 2, slots := 3, locals := 93 } : Room) s m #[(.ref a1)] below meth c s₁ [] 0 0 := Stand.of_body Bd
  have e0 : s₁.heap = h0 := by rw [← hh, Bd.state]; rfl
  have N0 := Fr.nil n0
  have oz : Z.heap.size = n0 := O0.1
  have S0 : ∀ t_, Steps p.tables e below (s₁.setTop (mkF m 0 #[.val (.ref a1)] [])) t_ → Steps p.tables e below (s₁.setTop (entryFrame m #[(.ref a1)] 1)) t_ := fun t_ k_ => castTop (ef_co1 m a1 b x kb mO a_EMPTY) k_
  have K0 := Keep.refl h0 []
  have lt_a1 : (a1 : Nat) < (h0.size : Nat) := E1.lt
  have lt_b : (b : Nat) < (h0.size : Nat) := A1.lt
  have lt_x : (x : Nat) < (h0.size : Nat) := Ex.lt
  obtain ⟨_, _, ⟨T1, L1, k1, n1⟩, -, X1, ⟨Lc1, hQ1, l1, y1, z1⟩, st1⟩ := Jvm.LawKit.callS X0 hx (y := (⟨"java/util/ImmutableCollections", "listCopy", "(Ljava/util/Collection;)Ljava/util/List;"⟩ : MethodName)) hown (mvT hZ (tw74 hw)) (mvT hZ (tw75 hw)) (mvT hZ (tw55 hw)) (mvT hZ (tw76 hw)) (by decide) (backOf (W := 0) (rm_lc1 l Z a0 hw [] a1 b x kb mO a_EMPTY h0 n0 (by omega) O0 E1 F2 F3 A1 Eb Ex (by first | assumption | omega | decide) S_EMPTY) hZ (tw76 hw) (tw55 hw) (by decide) (by decide)) (g := (mkF m 1 #[.val (.ref a1)] [(.ref a1)])) rfl (by rw [hml]; rfl) (argsL := [(.ref a1)]) (rest := []) (lenOf pd3 rfl) rfl (by show 2 * 0 + _ ≤ _; exact Nat.le_of_eq rfl) (hb hby d_jdk_40_method_48_1) (fun _ _ => ⟨rfl, e0, (by decide : 0 + 2 ≤ _), (by decide : 0 + 3 ≤ _)⟩)
  dsimp only [Pt.U, Pt.locs, Pt.cells, Pt.slots] at X1 l1 y1 z1 st1 hQ1
  subst l1 y1 z1
  obtain ⟨r2, rfl, N1q, Kq1, p1_0, p1_1⟩ := hQ1
  have N1 := Fr.app N0 N1q
  have z1 := Kq1.1
  have K1 := K0.trans Kq1 all0
  have O1 := O0.keep Kq1 all0
  have lq3 : (r2 : Nat) < (T1.heap.size : Nat) := p1_0.lt
  have bq1 := p1_1
  have S4 : ∀ t_, Steps p.tables e below (T1.setTop (mkF m 4 #[.val (.ref a1)] [(.ref r2)])) t_ → Steps p.tables e below (s₁.setTop (entryFrame m #[(.ref a1)] 1)) t_ := by
    intro t_ k_
    refine S0 t_ ?_
    show Steps p.tables e below (s₁.setTop (mkF m 0 #[.val (.ref a1)] [])) _
    refine XS.aloadN X0.here hx rfl (hb hby d_jdk_40_method_48_0) rfl rfl ?_
    show Steps p.tables e below (s₁.setTop (mkF m 1 #[.val (.ref a1)] [(.ref a1)])) _
    refine st1 _ ?_
    exact k_
  obtain ⟨fs, hr, hrun, hended, hW, hsame⟩ := X1.leave (v := (some (.ref r2))) (fun h => by rw [Bd.returns] at h; cases h)
  refine ⟨_, _, S4 _ ((retOut X1 hx Bd.returns rfl (Or.inr (Or.inr (Or.inr (Or.inr ⟨rfl, rfl, rfl⟩)))) (hb hby d_jdk_40_method_48_4) hr)), hrun, hended, _, _, rfl, ?_, ⟨_, rfl⟩, hW, hsame.mono (by decide) (by decide)⟩
  show Q_co1 Z a1 b x kb mO a_EMPTY h0 n0 _ T1.heap _
  exact ⟨r2, rfl, N1, K1, p1_0, (by omega)⟩
def Q_riE (Z : State) (o : Nat) (v1 : Value) (v2 : Value) (v3 : Value) (g0 : Value) (g1 : Value) (g2 : Value) (g3 : Value) (g4 : Value) (g5 : Value) (g6 : Value) (a_EMPTY_LIST : Nat) (a_EMPTY_SET : Nat) (h0 : Heap) (n0 : Nat) (v : Option Value) (h : Heap) (L : List Loc) : Prop := v = none ∧ Fr n0 L ∧ Keep h0 h [o] ∧ (Exa Z h o "com/example/fetcher/client/Received") ∧ (Fld Z h o "com/example/fetcher/client/Received" "errorCode" "Ljava/lang/String;" v2) ∧ (Fld Z h o "com/example/fetcher/client/Received" "returned" "Ljava/util/List;" (.ref a_EMPTY_LIST)) ∧ (Fld Z h o "com/example/fetcher/client/Received" "told" "Ljava/util/List;" (.ref a_EMPTY_LIST)) ∧ (Fld Z h o "com/example/fetcher/client/Received" "versions" "Ljava/util/Set;" (.ref a_EMPTY_SET))
theorem ef_riE (m : MethodId) (o : Nat) (v1 : Value) (v2 : Value) (v3 : Value) (g0 : Value) (g1 : Value) (g2 : Value) (g3 : Value) (g4 : Value) (g5 : Value) (g6 : Value) (a_EMPTY_LIST : Nat) (a_EMPTY_SET : Nat) (rv1 : v1.isRef = true) (rv2 : v2.isRef = true) (rv3 : v3.isRef = true) : entryFrame m #[(.ref o), v1, v2, v3, (.ref a_EMPTY_LIST), (.ref a_EMPTY_LIST), (.ref a_EMPTY_LIST), (.ref a_EMPTY_SET)] 8 = (mkF m 0 #[.val (.ref o), .val v1, .val v2, .val v3, .val (.ref a_EMPTY_LIST), .val (.ref a_EMPTY_LIST), .val (.ref a_EMPTY_LIST), .val (.ref a_EMPTY_SET)] []) := by
  simp [entryFrame, mkF, argsToLocals, own_cR, own_cI, own_cJ, own_cN, own_cat rv1, own_cat rv2, own_cat rv3]
set_option maxRecDepth 65536 in
set_option maxHeartbeats 40000000 in
theorem rm_riE (l : Launch) (Z : State) (a0 : Array Value) (hw : ∀ d ∈ tables_1, d.before a0 Z = true) (ws : List Jvm.Cond) (o : Nat) (v1 : Value) (v2 : Value) (v3 : Value) (g0 : Value) (g1 : Value) (g2 : Value) (g3 : Value) (g4 : Value) (g5 : Value) (g6 : Value) (a_EMPTY_LIST : Nat) (a_EMPTY_SET : Nat) (h0 : Heap) (n0 : Nat) (Z0 : n0 ≤ h0.size) (O0 : Old Z n0 h0) (Eo : Exa Z h0 o "com/example/fetcher/client/Received") (G0 : Fld Z h0 o "com/example/fetcher/client/Received" "replyTo" "Ljava/lang/String;" g0) (G1 : Fld Z h0 o "com/example/fetcher/client/Received" "errorCode" "Ljava/lang/String;" g1) (G2 : Fld Z h0 o "com/example/fetcher/client/Received" "errorText" "Ljava/lang/String;" g2) (G3 : Fld Z h0 o "com/example/fetcher/client/Received" "resources" "Ljava/util/List;" g3) (G4 : Fld Z h0 o "com/example/fetcher/client/Received" "returned" "Ljava/util/List;" g4) (G5 : Fld Z h0 o "com/example/fetcher/client/Received" "told" "Ljava/util/List;" g5) (G6 : Fld Z h0 o "com/example/fetcher/client/Received" "versions" "Ljava/util/Set;" g6) (rv1 : v1.isRef = true) (rv2 : v2.isRef = true) (rv3 : v3.isRef = true) (go : n0 ≤ o) (E_a_EMPTY_LIST : Exa Z Z.heap a_EMPTY_LIST "java/util/ImmutableCollections$ListN") (F_a_EMPTY_LIST_allowNulls : Fld Z Z.heap a_EMPTY_LIST "java/util/ImmutableCollections$ListN" "allowNulls" "Z" (.int (0 : Int32))) (E_a_EMPTY_SET : Exa Z Z.heap a_EMPTY_SET "java/util/ImmutableCollections$SetN") :
    MetFree l (⟨"com/example/fetcher/client/Received", "<init>", "(Ljava/lang/String;Ljava/lang/String;Ljava/lang/String;Ljava/util/List;Ljava/util/List;Ljava/util/List;Ljava/util/Set;)V"⟩ : MethodName) (head1 (Jvm.Cond.code (⟨"com/example/fetcher/client/Received", "<init>", "(Ljava/lang/String;Ljava/lang/String;Ljava/lang/String;Ljava/util/List;Ljava/util/List;Ljava/util/List;Ljava/util/Set;)V"⟩ : MethodName) prog_4_method_2_code 8 none :: ws) ({ frames := 2, cells := 0, slots := 0, locals := 26 } : Room)) (fun a_ U_ => a_ = #[(.ref o), v1, v2, v3, (.ref a_EMPTY_LIST), (.ref a_EMPTY_LIST), (.ref a_EMPTY_LIST), (.ref a_EMPTY_SET)] ∧ Z.Warmed39 U_.vm ∧ U_.heap = h0) (fun _ _ _ _ _ => True) (fun _ U_ o_ U'_ => ∃ v_ L_, o_ = .returned v_ ∧ Q_riE Z o v1 v2 v3 g0 g1 g2 g3 g4 g5 g6 a_EMPTY_LIST a_EMPTY_SET h0 n0 v_ U'_.heap L_ ∧ FrameEnd U_ o_ U'_ L_ ({ frames := 2, cells := 0, slots := 0, locals := 26 } : Room).cells ({ frames := 2, cells := 0, slots := 0, locals := 26 } : Room).slots) := by
  refine MetFree.of_bodySF (plainFor_of_name pn13) hisR ?_
  intro p e s m args below meth c s₁ Bd hml0 hP hK
  obtain ⟨rfl, hZ, hh⟩ := hP
  have hx := Bd.exec
  have hby := Bd.bytes
  have hml : c.maxLocals = 8 := hml0
  have hown : s.vm.findClass "com/example/fetcher/client/Received" = some m.cls := findClass_of_methodNamed Bd.named
  have hnm := (name_of_methodNamed Bd.named Bd.method).1
  have X0 : Stand p l e ({ frames := 2, cells := 0, slots := 0, locals := 26 } : Room) s m #[(.ref o), v1, v2, v3, (.ref a_EMPTY_LIST), (.ref a_EMPTY_LIST), (.ref a_EMPTY_LIST), (.ref a_EMPTY_SET)] below meth c s₁ [] 0 0 := Stand.of_body Bd
  have e0 : s₁.heap = h0 := by rw [← hh, Bd.state]; rfl
  have N0 := Fr.nil n0
  have oz : Z.heap.size = n0 := O0.1
  have S0 : ∀ t_, Steps p.tables e below (s₁.setTop (mkF m 0 #[.val (.ref o), .val v1, .val v2, .val v3, .val (.ref a_EMPTY_LIST), .val (.ref a_EMPTY_LIST), .val (.ref a_EMPTY_LIST), .val (.ref a_EMPTY_SET)] [])) t_ → Steps p.tables e below (s₁.setTop (entryFrame m #[(.ref o), v1, v2, v3, (.ref a_EMPTY_LIST), (.ref a_EMPTY_LIST), (.ref a_EMPTY_LIST), (.ref a_EMPTY_SET)] 8)) t_ := fun t_ k_ => castTop (ef_riE m o v1 v2 v3 g0 g1 g2 g3 g4 g5 g6 a_EMPTY_LIST a_EMPTY_SET rv1 rv2 rv3) k_
  have K0 := Keep.refl h0 [o]
  have lt_o : (o : Nat) < (h0.size : Nat) := Eo.lt
  have lt_a_EMPTY_LIST : (a_EMPTY_LIST : Nat) < (Z.heap.size : Nat) := E_a_EMPTY_LIST.lt
  have lt_a_EMPTY_SET : (a_EMPTY_SET : Nat) < (Z.heap.size : Nat) := E_a_EMPTY_SET.lt
  obtain ⟨T1, X1, e1, st1⟩ := initO X0 hx hZ hown (tw64 hw) (tw12 hw) (tw13 hw) e0 (g := (mkF m 1 #[.val (.ref o), .val v1, .val v2, .val v3, .val (.ref a_EMPTY_LIST), .val (.ref a_EMPTY_LIST), .val (.ref a_EMPTY_LIST), .val (.ref a_EMPTY_SET)] [(.ref o)])) rfl (by rw [hml]; rfl) rfl (hb hby d_prog_4_method_2_1) (by decide) (W := 0) (by show 2 * 0 + _ ≤ _; exact Nat.le_of_eq rfl) (by decide)
  obtain ⟨T2, h2, X2, e2, W2, st2⟩ := putF X1 hx hZ hown (host := "") (Or.inl (tw65 hw)) Via.refl e1 G0 Eo (Or.inr ⟨(tw66 hw), rfl, hnm⟩) (tw49 hw) (ty := (.object "java/lang/String")) (by decide) rfl (by rcases ref_cases rv1 with q | ⟨_, q⟩ <;> subst q <;> rfl) (g := (mkF m 6 #[.val (.ref o), .val v1, .val v2, .val v3, .val (.ref a_EMPTY_LIST), .val (.ref a_EMPTY_LIST), .val (.ref a_EMPTY_LIST), .val (.ref a_EMPTY_SET)] [v1, (.ref o)])) rfl rfl (hb hby d_prog_4_method_2_6)
  have z2 := W2.size
  have K2 := K0.wr W2 (Or.inl (by simp))
  have N2 := Fr.snoc X2 N0 (by omega)
  have O2 := O0.wr W2 (by omega)
  have fw2 := G0.same W2
  have f3 := (Eo.wr W2)
  have f4 := (G1.other W2 (Or.inr (slot_ne (Or.inr (tw68 hw)) (Or.inr (tw66 hw)) (by decide) (t := (.object "java/lang/String")) (t' := (.object "java/lang/String")) (by decide) (by decide))))
  obtain ⟨T5, h5, X5, e5, W5, st5⟩ := putF X2 hx hZ hown (host := "") (Or.inl (tw67 hw)) Via.refl e2 f4 f3 (Or.inr ⟨(tw68 hw), rfl, hnm⟩) (tw49 hw) (ty := (.object "java/lang/String")) (by decide) rfl (by rcases ref_cases rv2 with q | ⟨_, q⟩ <;> subst q <;> rfl) (g := (mkF m 11 #[.val (.ref o), .val v1, .val v2, .val v3, .val (.ref a_EMPTY_LIST), .val (.ref a_EMPTY_LIST), .val (.ref a_EMPTY_LIST), .val (.ref a_EMPTY_SET)] [v2, (.ref o)])) rfl rfl (hb hby d_prog_4_method_2_11)
  have z5 := W5.size
  have K5 := K2.wr W5 (Or.inl (by simp))
  have N5 := Fr.snoc X5 N2 (by omega)
  have O5 := O2.wr W5 (by omega)
  have fw5 := f4.same W5
  have f6 := (f3.wr W5)
  have f7 := ((G2.other W2 (Or.inr (slot_ne (Or.inr (tw70 hw)) (Or.inr (tw66 hw)) (by decide) (t := (.object "java/lang/String")) (t' := (.object "java/lang/String")) (by decide) (by decide)))).other W5 (Or.inr (slot_ne (Or.inr (tw70 hw)) (Or.inr (tw68 hw)) (by decide) (t := (.object "java/lang/String")) (t' := (.object "java/lang/String")) (by decide) (by decide))))
  obtain ⟨T8, h8, X8, e8, W8, st8⟩ := putF X5 hx hZ hown (host := "") (Or.inl (tw69 hw)) Via.refl e5 f7 f6 (Or.inr ⟨(tw70 hw), rfl, hnm⟩) (tw49 hw) (ty := (.object "java/lang/String")) (by decide) rfl (by rcases ref_cases rv3 with q | ⟨_, q⟩ <;> subst q <;> rfl) (g := (mkF m 16 #[.val (.ref o), .val v1, .val v2, .val v3, .val (.ref a_EMPTY_LIST), .val (.ref a_EMPTY_LIST), .val (.ref a_EMPTY_LIST), .val (.ref a_EMPTY_SET)] [v3, (.ref o)])) rfl rfl (hb hby d_prog_4_method_2_16)
  have z8 := W8.size
  have K8 := K5.wr W8 (Or.inl (by simp))
  have N8 := Fr.snoc X8 N5 (by omega)
  have O8 := O5.wr W8 (by omega)
  have fw8 := f7.same W8
  obtain ⟨_, _, ⟨T9, L9, k9, n9⟩, -, X9, ⟨Lc9, hQ9, l9, y9, z9⟩, st9⟩ := Jvm.LawKit.callS X8 hx (y := (⟨"java/util/List", "copyOf", "(Ljava/util/Collection;)Ljava/util/List;"⟩ : MethodName)) hown (mvT hZ (tw71 hw)) (mvT hZ (tw72 hw)) (mvT hZ (tw52 hw)) (mvT hZ (tw73 hw)) (by decide) (backOf (W := 1) (rm_coE l Z a0 hw [] a_EMPTY_LIST h8 n0 (by omega) O8 E_a_EMPTY_LIST F_a_EMPTY_LIST_allowNulls) hZ (tw73 hw) (tw52 hw) (by decide) (by decide)) (g := (mkF m 22 #[.val (.ref o), .val v1, .val v2, .val v3, .val (.ref a_EMPTY_LIST), .val (.ref a_EMPTY_LIST), .val (.ref a_EMPTY_LIST), .val (.ref a_EMPTY_SET)] [(.ref a_EMPTY_LIST), (.ref o)])) rfl (by rw [hml]; rfl) (argsL := [(.ref a_EMPTY_LIST)]) (rest := [(.ref o)]) (lenOf pd3 rfl) rfl (by show 2 * 0 + _ ≤ _; exact Nat.le_of_eq rfl) (hb hby d_prog_4_method_2_22) (fun _ _ => ⟨rfl, e8, (by decide : 0 + 0 ≤ _), (by decide : 0 + 0 ≤ _)⟩)
  dsimp only [Pt.U, Pt.locs, Pt.cells, Pt.slots] at X9 l9 y9 z9 st9 hQ9
  subst l9 y9 z9
  obtain ⟨rfl, N9q, Kq9⟩ := hQ9
  have N9 := Fr.app N8 N9q
  have f10 := (f6.wr W8)
  have f11 := (((G3.other W2 (Or.inr (slot_ne (Or.inr (tw90 hw)) (Or.inr (tw66 hw)) (by decide) (t := (.object "java/util/List")) (t' := (.object "java/lang/String")) (by decide) (by decide)))).other W5 (Or.inr (slot_ne (Or.inr (tw90 hw)) (Or.inr (tw68 hw)) (by decide) (t := (.object "java/util/List")) (t' := (.object "java/lang/String")) (by decide) (by decide)))).other W8 (Or.inr (slot_ne (Or.inr (tw90 hw)) (Or.inr (tw70 hw)) (by decide) (t := (.object "java/util/List")) (t' := (.object "java/lang/String")) (by decide) (by decide))))
  obtain ⟨T12, h12, X12, e12, W12, st12⟩ := putF X9 hx hZ hown (host := "") (Or.inl (tw89 hw)) Via.refl Kq9 f11 f10 (Or.inr ⟨(tw90 hw), rfl, hnm⟩) (tw49 hw) (ty := (.object "java/util/List")) (by decide) rfl rfl (g := (mkF m 25 #[.val (.ref o), .val v1, .val v2, .val v3, .val (.ref a_EMPTY_LIST), .val (.ref a_EMPTY_LIST), .val (.ref a_EMPTY_LIST), .val (.ref a_EMPTY_SET)] [(.ref a_EMPTY_LIST), (.ref o)])) rfl rfl (hb hby d_prog_4_method_2_25)
  have z12 := W12.size
  have K12 := K8.wr W12 (Or.inl (by simp))
  have N12 := Fr.snoc X12 N9 (by omega)
  have O12 := O8.wr W12 (by omega)
  have fw12 := f11.same W12
  obtain ⟨_, _, ⟨T13, L13, k13, n13⟩, -, X13, ⟨Lc13, hQ13, l13, y13, z13⟩, st13⟩ := Jvm.LawKit.callS X12 hx (y := (⟨"java/util/List", "copyOf", "(Ljava/util/Collection;)Ljava/util/List;"⟩ : MethodName)) hown (mvT hZ (tw71 hw)) (mvT hZ (tw72 hw)) (mvT hZ (tw52 hw)) (mvT hZ (tw73 hw)) (by decide) (backOf (W := 1) (rm_coE l Z a0 hw [] a_EMPTY_LIST h12 n0 (by omega) O12 E_a_EMPTY_LIST F_a_EMPTY_LIST_allowNulls) hZ (tw73 hw) (tw52 hw) (by decide) (by decide)) (g := (mkF m 31 #[.val (.ref o), .val v1, .val v2, .val v3, .val (.ref a_EMPTY_LIST), .val (.ref a_EMPTY_LIST), .val (.ref a_EMPTY_LIST), .val (.ref a_EMPTY_SET)] [(.ref a_EMPTY_LIST), (.ref o)])) rfl (by rw [hml]; rfl) (argsL := [(.ref a_EMPTY_LIST)]) (rest := [(.ref o)]) (lenOf pd3 rfl) rfl (by show 2 * 0 + _ ≤ _; exact Nat.le_of_eq rfl) (hb hby d_prog_4_method_2_31) (fun _ _ => ⟨rfl, e12, (by decide : 0 + 0 ≤ _), (by decide : 0 + 0 ≤ _)⟩)
  dsimp only [Pt.U, Pt.locs, Pt.cells, Pt.slots] at X13 l13 y13 z13 st13 hQ13
  subst l13 y13 z13
  obtain ⟨rfl, N13q, Kq13⟩ := hQ13
  have N13 := Fr.app N12 N13q
  have f14 := (f10.wr W12)
  have f15 := ((((G4.other W2 (Or.inr (slot_ne (Or.inr (tw92 hw)) (Or.inr (tw66 hw)) (by decide) (t := (.object "java/util/List")) (t' := (.object "java/lang/String")) (by decide) (by decide)))).other W5 (Or.inr (slot_ne (Or.inr (tw92 hw)) (Or.inr (tw68 hw)) (by decide) (t := (.object "java/util/List")) (t' := (.object "java/lang/String")) (by decide) (by decide)))).other W8 (Or.inr (slot_ne (Or.inr (tw92 hw)) (Or.inr (tw70 hw)) (by decide) (t := (.object "java/util/List")) (t' := (.object "java/lang/String")) (by decide) (by decide)))).other W12 (Or.inr (slot_ne (Or.inr (tw92 hw)) (Or.inr (tw90 hw)) (by decide) (t := (.object "java/util/List")) (t' := (.object "java/util/List")) (by decide) (by decide))))
  obtain ⟨T16, h16, X16, e16, W16, st16⟩ := putF X13 hx hZ hown (host := "") (Or.inl (tw91 hw)) Via.refl Kq13 f15 f14 (Or.inr ⟨(tw92 hw), rfl, hnm⟩) (tw49 hw) (ty := (.object "java/util/List")) (by decide) rfl rfl (g := (mkF m 34 #[.val (.ref o), .val v1, .val v2, .val v3, .val (.ref a_EMPTY_LIST), .val (.ref a_EMPTY_LIST), .val (.ref a_EMPTY_LIST), .val (.ref a_EMPTY_SET)] [(.ref a_EMPTY_LIST), (.ref o)])) rfl rfl (hb hby d_prog_4_method_2_34)
  have z16 := W16.size
  have K16 := K12.wr W16 (Or.inl (by simp))
  have N16 := Fr.snoc X16 N13 (by omega)
  have O16 := O12.wr W16 (by omega)
  have fw16 := f15.same W16
  obtain ⟨_, _, ⟨T17, L17, k17, n17⟩, -, X17, ⟨Lc17, hQ17, l17, y17, z17⟩, st17⟩ := Jvm.LawKit.callS X16 hx (y := (⟨"java/util/List", "copyOf", "(Ljava/util/Collection;)Ljava/util/List;"⟩ : MethodName)) hown (mvT hZ (tw71 hw)) (mvT hZ (tw72 hw)) (mvT hZ (tw52 hw)) (mvT hZ (tw73 hw)) (by decide) (backOf (W := 1) (rm_coE l Z a0 hw [] a_EMPTY_LIST h16 n0 (by omega) O16 E_a_EMPTY_LIST F_a_EMPTY_LIST_allowNulls) hZ (tw73 hw) (tw52 hw) (by decide) (by decide)) (g := (mkF m 40 #[.val (.ref o), .val v1, .val v2, .val v3, .val (.ref a_EMPTY_LIST), .val (.ref a_EMPTY_LIST), .val (.ref a_EMPTY_LIST), .val (.ref a_EMPTY_SET)] [(.ref a_EMPTY_LIST), (.ref o)])) rfl (by rw [hml]; rfl) (argsL := [(.ref a_EMPTY_LIST)]) (rest := [(.ref o)]) (lenOf pd3 rfl) rfl (by show 2 * 0 + _ ≤ _; exact Nat.le_of_eq rfl) (hb hby d_prog_4_method_2_40) (fun _ _ => ⟨rfl, e16, (by decide : 0 + 0 ≤ _), (by decide : 0 + 0 ≤ _)⟩)
  dsimp only [Pt.U, Pt.locs, Pt.cells, Pt.slots] at X17 l17 y17 z17 st17 hQ17
  subst l17 y17 z17
  obtain ⟨rfl, N17q, Kq17⟩ := hQ17
  have N17 := Fr.app N16 N17q
  have f18 := (f14.wr W16)
  have f19 := (((((G5.other W2 (Or.inr (slot_ne (Or.inr (tw94 hw)) (Or.inr (tw66 hw)) (by decide) (t := (.object "java/util/List")) (t' := (.object "java/lang/String")) (by decide) (by decide)))).other W5 (Or.inr (slot_ne (Or.inr (tw94 hw)) (Or.inr (tw68 hw)) (by decide) (t := (.object "java/util/List")) (t' := (.object "java/lang/String")) (by decide) (by decide)))).other W8 (Or.inr (slot_ne (Or.inr (tw94 hw)) (Or.inr (tw70 hw)) (by decide) (t := (.object "java/util/List")) (t' := (.object "java/lang/String")) (by decide) (by decide)))).other W12 (Or.inr (slot_ne (Or.inr (tw94 hw)) (Or.inr (tw90 hw)) (by decide) (t := (.object "java/util/List")) (t' := (.object "java/util/List")) (by decide) (by decide)))).other W16 (Or.inr (slot_ne (Or.inr (tw94 hw)) (Or.inr (tw92 hw)) (by decide) (t := (.object "java/util/List")) (t' := (.object "java/util/List")) (by decide) (by decide))))
  obtain ⟨T20, h20, X20, e20, W20, st20⟩ := putF X17 hx hZ hown (host := "") (Or.inl (tw93 hw)) Via.refl Kq17 f19 f18 (Or.inr ⟨(tw94 hw), rfl, hnm⟩) (tw49 hw) (ty := (.object "java/util/List")) (by decide) rfl rfl (g := (mkF m 43 #[.val (.ref o), .val v1, .val v2, .val v3, .val (.ref a_EMPTY_LIST), .val (.ref a_EMPTY_LIST), .val (.ref a_EMPTY_LIST), .val (.ref a_EMPTY_SET)] [(.ref a_EMPTY_LIST), (.ref o)])) rfl rfl (hb hby d_prog_4_method_2_43)
  have z20 := W20.size
  have K20 := K16.wr W20 (Or.inl (by simp))
  have N20 := Fr.snoc X20 N17 (by omega)
  have O20 := O16.wr W20 (by omega)
  have fw20 := f19.same W20
  obtain ⟨_, _, ⟨T21, L21, k21, n21⟩, -, X21, ⟨Lc21, hQ21, l21, y21, z21⟩, st21⟩ := Jvm.LawKit.callS X20 hx (y := (⟨"java/util/Set", "copyOf", "(Ljava/util/Collection;)Ljava/util/Set;"⟩ : MethodName)) hown (mvT hZ (tw95 hw)) (mvT hZ (tw96 hw)) (mvT hZ (tw58 hw)) (mvT hZ (tw97 hw)) (by decide) (backOf (W := 1) (rm_scE l Z a0 hw [] a_EMPTY_SET h20 n0 (by omega) O20 E_a_EMPTY_SET) hZ (tw97 hw) (tw58 hw) (by decide) (by decide)) (g := (mkF m 49 #[.val (.ref o), .val v1, .val v2, .val v3, .val (.ref a_EMPTY_LIST), .val (.ref a_EMPTY_LIST), .val (.ref a_EMPTY_LIST), .val (.ref a_EMPTY_SET)] [(.ref a_EMPTY_SET), (.ref o)])) rfl (by rw [hml]; rfl) (argsL := [(.ref a_EMPTY_SET)]) (rest := [(.ref o)]) (lenOf pd16 rfl) rfl (by show 2 * 0 + _ ≤ _; exact Nat.le_of_eq rfl) (hb hby d_prog_4_method_2_49) (fun _ _ => ⟨rfl, e20, (by decide : 0 + 0 ≤ _), (by decide : 0 + 0 ≤ _)⟩)
  dsimp only [Pt.U, Pt.locs, Pt.cells, Pt.slots] at X21 l21 y21 z21 st21 hQ21
  subst l21 y21 z21
  obtain ⟨rfl, N21q, Kq21⟩ := hQ21
  have N21 := Fr.app N20 N21q
  have f22 := (f18.wr W20)
  have f23 := ((((((G6.other W2 (Or.inr (slot_ne (Or.inr (tw103 hw)) (Or.inr (tw66 hw)) (by decide) (t := (.object "java/util/Set")) (t' := (.object "java/lang/String")) (by decide) (by decide)))).other W5 (Or.inr (slot_ne (Or.inr (tw103 hw)) (Or.inr (tw68 hw)) (by decide) (t := (.object "java/util/Set")) (t' := (.object "java/lang/String")) (by decide) (by decide)))).other W8 (Or.inr (slot_ne (Or.inr (tw103 hw)) (Or.inr (tw70 hw)) (by decide) (t := (.object "java/util/Set")) (t' := (.object "java/lang/String")) (by decide) (by decide)))).other W12 (Or.inr (slot_ne (Or.inr (tw103 hw)) (Or.inr (tw90 hw)) (by decide) (t := (.object "java/util/Set")) (t' := (.object "java/util/List")) (by decide) (by decide)))).other W16 (Or.inr (slot_ne (Or.inr (tw103 hw)) (Or.inr (tw92 hw)) (by decide) (t := (.object "java/util/Set")) (t' := (.object "java/util/List")) (by decide) (by decide)))).other W20 (Or.inr (slot_ne (Or.inr (tw103 hw)) (Or.inr (tw94 hw)) (by decide) (t := (.object "java/util/Set")) (t' := (.object "java/util/List")) (by decide) (by decide))))
  obtain ⟨T24, h24, X24, e24, W24, st24⟩ := putF X21 hx hZ hown (host := "") (Or.inl (tw102 hw)) Via.refl Kq21 f23 f22 (Or.inr ⟨(tw103 hw), rfl, hnm⟩) (tw49 hw) (ty := (.object "java/util/Set")) (by decide) rfl rfl (g := (mkF m 52 #[.val (.ref o), .val v1, .val v2, .val v3, .val (.ref a_EMPTY_LIST), .val (.ref a_EMPTY_LIST), .val (.ref a_EMPTY_LIST), .val (.ref a_EMPTY_SET)] [(.ref a_EMPTY_SET), (.ref o)])) rfl rfl (hb hby d_prog_4_method_2_52)
  have z24 := W24.size
  have K24 := K20.wr W24 (Or.inl (by simp))
  have N24 := Fr.snoc X24 N21 (by omega)
  have O24 := O20.wr W24 (by omega)
  have fw24 := f23.same W24
  have S25 : ∀ t_, Steps p.tables e below (T24.setTop (mkF m 55 #[.val (.ref o), .val v1, .val v2, .val v3, .val (.ref a_EMPTY_LIST), .val (.ref a_EMPTY_LIST), .val (.ref a_EMPTY_LIST), .val (.ref a_EMPTY_SET)] [])) t_ → Steps p.tables e below (s₁.setTop (entryFrame m #[(.ref o), v1, v2, v3, (.ref a_EMPTY_LIST), (.ref a_EMPTY_LIST), (.ref a_EMPTY_LIST), (.ref a_EMPTY_SET)] 8)) t_ := by
    intro t_ k_
    refine S0 t_ ?_
    show Steps p.tables e below (s₁.setTop (mkF m 0 #[.val (.ref o), .val v1, .val v2, .val v3, .val (.ref a_EMPTY_LIST), .val (.ref a_EMPTY_LIST), .val (.ref a_EMPTY_LIST), .val (.ref a_EMPTY_SET)] [])) _
    refine XS.aloadN X0.here hx rfl (hb hby d_prog_4_method_2_0) rfl rfl ?_
    show Steps p.tables e below (s₁.setTop (mkF m 1 #[.val (.ref o), .val v1, .val v2, .val v3, .val (.ref a_EMPTY_LIST), .val (.ref a_EMPTY_LIST), .val (.ref a_EMPTY_LIST), .val (.ref a_EMPTY_SET)] [(.ref o)])) _
    refine st1 _ ?_
    show Steps p.tables e below (T1.setTop (mkF m 4 #[.val (.ref o), .val v1, .val v2, .val v3, .val (.ref a_EMPTY_LIST), .val (.ref a_EMPTY_LIST), .val (.ref a_EMPTY_LIST), .val (.ref a_EMPTY_SET)] [])) _
    refine XS.aloadN X1.here hx rfl (hb hby d_prog_4_method_2_4) rfl rfl ?_
    show Steps p.tables e below (T1.setTop (mkF m 5 #[.val (.ref o), .val v1, .val v2, .val v3, .val (.ref a_EMPTY_LIST), .val (.ref a_EMPTY_LIST), .val (.ref a_EMPTY_LIST), .val (.ref a_EMPTY_SET)] [(.ref o)])) _
    refine XS.aloadN X1.here hx rfl (hb hby d_prog_4_method_2_5) rfl rv1 ?_
    show Steps p.tables e below (T1.setTop (mkF m 6 #[.val (.ref o), .val v1, .val v2, .val v3, .val (.ref a_EMPTY_LIST), .val (.ref a_EMPTY_LIST), .val (.ref a_EMPTY_LIST), .val (.ref a_EMPTY_SET)] [v1, (.ref o)])) _
    refine st2 _ ?_
    show Steps p.tables e below (T2.setTop (mkF m 9 #[.val (.ref o), .val v1, .val v2, .val v3, .val (.ref a_EMPTY_LIST), .val (.ref a_EMPTY_LIST), .val (.ref a_EMPTY_LIST), .val (.ref a_EMPTY_SET)] [])) _
    refine XS.aloadN X2.here hx rfl (hb hby d_prog_4_method_2_9) rfl rfl ?_
    show Steps p.tables e below (T2.setTop (mkF m 10 #[.val (.ref o), .val v1, .val v2, .val v3, .val (.ref a_EMPTY_LIST), .val (.ref a_EMPTY_LIST), .val (.ref a_EMPTY_LIST), .val (.ref a_EMPTY_SET)] [(.ref o)])) _
    refine XS.aloadN X2.here hx rfl (hb hby d_prog_4_method_2_10) rfl rv2 ?_
    show Steps p.tables e below (T2.setTop (mkF m 11 #[.val (.ref o), .val v1, .val v2, .val v3, .val (.ref a_EMPTY_LIST), .val (.ref a_EMPTY_LIST), .val (.ref a_EMPTY_LIST), .val (.ref a_EMPTY_SET)] [v2, (.ref o)])) _
    refine st5 _ ?_
    show Steps p.tables e below (T5.setTop (mkF m 14 #[.val (.ref o), .val v1, .val v2, .val v3, .val (.ref a_EMPTY_LIST), .val (.ref a_EMPTY_LIST), .val (.ref a_EMPTY_LIST), .val (.ref a_EMPTY_SET)] [])) _
    refine XS.aloadN X5.here hx rfl (hb hby d_prog_4_method_2_14) rfl rfl ?_
    show Steps p.tables e below (T5.setTop (mkF m 15 #[.val (.ref o), .val v1, .val v2, .val v3, .val (.ref a_EMPTY_LIST), .val (.ref a_EMPTY_LIST), .val (.ref a_EMPTY_LIST), .val (.ref a_EMPTY_SET)] [(.ref o)])) _
    refine XS.aloadN X5.here hx rfl (hb hby d_prog_4_method_2_15) rfl rv3 ?_
    show Steps p.tables e below (T5.setTop (mkF m 16 #[.val (.ref o), .val v1, .val v2, .val v3, .val (.ref a_EMPTY_LIST), .val (.ref a_EMPTY_LIST), .val (.ref a_EMPTY_LIST), .val (.ref a_EMPTY_SET)] [v3, (.ref o)])) _
    refine st8 _ ?_
    show Steps p.tables e below (T8.setTop (mkF m 19 #[.val (.ref o), .val v1, .val v2, .val v3, .val (.ref a_EMPTY_LIST), .val (.ref a_EMPTY_LIST), .val (.ref a_EMPTY_LIST), .val (.ref a_EMPTY_SET)] [])) _
    refine XS.aloadN X8.here hx rfl (hb hby d_prog_4_method_2_19) rfl rfl ?_
    show Steps p.tables e below (T8.setTop (mkF m 20 #[.val (.ref o), .val v1, .val v2, .val v3, .val (.ref a_EMPTY_LIST), .val (.ref a_EMPTY_LIST), .val (.ref a_EMPTY_LIST), .val (.ref a_EMPTY_SET)] [(.ref o)])) _
    refine XS.aload X8.here hx rfl (hb hby d_prog_4_method_2_20) rfl rfl ?_
    show Steps p.tables e below (T8.setTop (mkF m 22 #[.val (.ref o), .val v1, .val v2, .val v3, .val (.ref a_EMPTY_LIST), .val (.ref a_EMPTY_LIST), .val (.ref a_EMPTY_LIST), .val (.ref a_EMPTY_SET)] [(.ref a_EMPTY_LIST), (.ref o)])) _
    refine st9 _ ?_
    show Steps p.tables e below (T9.setTop (mkF m 25 #[.val (.ref o), .val v1, .val v2, .val v3, .val (.ref a_EMPTY_LIST), .val (.ref a_EMPTY_LIST), .val (.ref a_EMPTY_LIST), .val (.ref a_EMPTY_SET)] [(.ref a_EMPTY_LIST), (.ref o)])) _
    refine st12 _ ?_
    show Steps p.tables e below (T12.setTop (mkF m 28 #[.val (.ref o), .val v1, .val v2, .val v3, .val (.ref a_EMPTY_LIST), .val (.ref a_EMPTY_LIST), .val (.ref a_EMPTY_LIST), .val (.ref a_EMPTY_SET)] [])) _
    refine XS.aloadN X12.here hx rfl (hb hby d_prog_4_method_2_28) rfl rfl ?_
    show Steps p.tables e below (T12.setTop (mkF m 29 #[.val (.ref o), .val v1, .val v2, .val v3, .val (.ref a_EMPTY_LIST), .val (.ref a_EMPTY_LIST), .val (.ref a_EMPTY_LIST), .val (.ref a_EMPTY_SET)] [(.ref o)])) _
    refine XS.aload X12.here hx rfl (hb hby d_prog_4_method_2_29) rfl rfl ?_
    show Steps p.tables e below (T12.setTop (mkF m 31 #[.val (.ref o), .val v1, .val v2, .val v3, .val (.ref a_EMPTY_LIST), .val (.ref a_EMPTY_LIST), .val (.ref a_EMPTY_LIST), .val (.ref a_EMPTY_SET)] [(.ref a_EMPTY_LIST), (.ref o)])) _
    refine st13 _ ?_
    show Steps p.tables e below (T13.setTop (mkF m 34 #[.val (.ref o), .val v1, .val v2, .val v3, .val (.ref a_EMPTY_LIST), .val (.ref a_EMPTY_LIST), .val (.ref a_EMPTY_LIST), .val (.ref a_EMPTY_SET)] [(.ref a_EMPTY_LIST), (.ref o)])) _
    refine st16 _ ?_
    show Steps p.tables e below (T16.setTop (mkF m 37 #[.val (.ref o), .val v1, .val v2, .val v3, .val (.ref a_EMPTY_LIST), .val (.ref a_EMPTY_LIST), .val (.ref a_EMPTY_LIST), .val (.ref a_EMPTY_SET)] [])) _
    refine XS.aloadN X16.here hx rfl (hb hby d_prog_4_method_2_37) rfl rfl ?_
    show Steps p.tables e below (T16.setTop (mkF m 38 #[.val (.ref o), .val v1, .val v2, .val v3, .val (.ref a_EMPTY_LIST), .val (.ref a_EMPTY_LIST), .val (.ref a_EMPTY_LIST), .val (.ref a_EMPTY_SET)] [(.ref o)])) _
    refine XS.aload X16.here hx rfl (hb hby d_prog_4_method_2_38) rfl rfl ?_
    show Steps p.tables e below (T16.setTop (mkF m 40 #[.val (.ref o), .val v1, .val v2, .val v3, .val (.ref a_EMPTY_LIST), .val (.ref a_EMPTY_LIST), .val (.ref a_EMPTY_LIST), .val (.ref a_EMPTY_SET)] [(.ref a_EMPTY_LIST), (.ref o)])) _
    refine st17 _ ?_
    show Steps p.tables e below (T17.setTop (mkF m 43 #[.val (.ref o), .val v1, .val v2, .val v3, .val (.ref a_EMPTY_LIST), .val (.ref a_EMPTY_LIST), .val (.ref a_EMPTY_LIST), .val (.ref a_EMPTY_SET)] [(.ref a_EMPTY_LIST), (.ref o)])) _
    refine st20 _ ?_
    show Steps p.tables e below (T20.setTop (mkF m 46 #[.val (.ref o), .val v1, .val v2, .val v3, .val (.ref a_EMPTY_LIST), .val (.ref a_EMPTY_LIST), .val (.ref a_EMPTY_LIST), .val (.ref a_EMPTY_SET)] [])) _
    refine XS.aloadN X20.here hx rfl (hb hby d_prog_4_method_2_46) rfl rfl ?_
    show Steps p.tables e below (T20.setTop (mkF m 47 #[.val (.ref o), .val v1, .val v2, .val v3, .val (.ref a_EMPTY_LIST), .val (.ref a_EMPTY_LIST), .val (.ref a_EMPTY_LIST), .val (.ref a_EMPTY_SET)] [(.ref o)])) _
    refine XS.aload X20.here hx rfl (hb hby d_prog_4_method_2_47) rfl rfl ?_
    show Steps p.tables e below (T20.setTop (mkF m 49 #[.val (.ref o), .val v1, .val v2, .val v3, .val (.ref a_EMPTY_LIST), .val (.ref a_EMPTY_LIST), .val (.ref a_EMPTY_LIST), .val (.ref a_EMPTY_SET)] [(.ref a_EMPTY_SET), (.ref o)])) _
    refine st21 _ ?_
    show Steps p.tables e below (T21.setTop (mkF m 52 #[.val (.ref o), .val v1, .val v2, .val v3, .val (.ref a_EMPTY_LIST), .val (.ref a_EMPTY_LIST), .val (.ref a_EMPTY_LIST), .val (.ref a_EMPTY_SET)] [(.ref a_EMPTY_SET), (.ref o)])) _
    refine st24 _ ?_
    exact k_
  obtain ⟨fs, hr, hrun, hended, hW, hsame⟩ := X24.leave (v := none) (fun _ => rfl)
  refine ⟨_, _, S25 _ (X24.returnOut hx Bd.returns (hb hby d_prog_4_method_2_55) hr), hrun, hended, _, _, rfl, ?_, ⟨_, rfl⟩, hW, hsame.mono (by decide) (by decide)⟩
  show Q_riE Z o v1 v2 v3 g0 g1 g2 g3 g4 g5 g6 a_EMPTY_LIST a_EMPTY_SET h0 n0 _ T24.heap _
  rw [e24]
  have f26 := (f22.wr W24)
  have f27 := (((((fw5.other W8 (Or.inr (slot_ne (Or.inr (tw68 hw)) (Or.inr (tw70 hw)) (by decide) (t := (.object "java/lang/String")) (t' := (.object "java/lang/String")) (by decide) (by decide)))).other W12 (Or.inr (slot_ne (Or.inr (tw68 hw)) (Or.inr (tw90 hw)) (by decide) (t := (.object "java/lang/String")) (t' := (.object "java/util/List")) (by decide) (by decide)))).other W16 (Or.inr (slot_ne (Or.inr (tw68 hw)) (Or.inr (tw92 hw)) (by decide) (t := (.object "java/lang/String")) (t' := (.object "java/util/List")) (by decide) (by decide)))).other W20 (Or.inr (slot_ne (Or.inr (tw68 hw)) (Or.inr (tw94 hw)) (by decide) (t := (.object "java/lang/String")) (t' := (.object "java/util/List")) (by decide) (by decide)))).other W24 (Or.inr (slot_ne (Or.inr (tw68 hw)) (Or.inr (tw103 hw)) (by decide) (t := (.object "java/lang/String")) (t' := (.object "java/util/Set")) (by decide) (by decide))))
  have f28 := ((fw16.other W20 (Or.inr (slot_ne (Or.inr (tw92 hw)) (Or.inr (tw94 hw)) (by decide) (t := (.object "java/util/List")) (t' := (.object "java/util/List")) (by decide) (by decide)))).other W24 (Or.inr (slot_ne (Or.inr (tw92 hw)) (Or.inr (tw103 hw)) (by decide) (t := (.object "java/util/List")) (t' := (.object "java/util/Set")) (by decide) (by decide))))
  have f29 := (fw20.other W24 (Or.inr (slot_ne (Or.inr (tw94 hw)) (Or.inr (tw103 hw)) (by decide) (t := (.object "java/util/List")) (t' := (.object "java/util/Set")) (by decide) (by decide))))
  exact ⟨rfl, N24, K24, f26, f27, f28, f29, fw24⟩
def Q_ri0 (Z : State) (o : Nat) (v1 : Value) (a1 : Nat) (g0 : Value) (g1 : Value) (g2 : Value) (g3 : Value) (g4 : Value) (g5 : Value) (g6 : Value) (a_EMPTY_LIST : Nat) (a_EMPTY_SET : Nat) (h0 : Heap) (n0 : Nat) (v : Option Value) (h : Heap) (L : List Loc) : Prop := v = none ∧ Fr n0 L ∧ Keep h0 h [o] ∧ (Exa Z h o "com/example/fetcher/client/Received") ∧ (Fld Z h o "com/example/fetcher/client/Received" "errorCode" "Ljava/lang/String;" .null)
theorem ef_ri0 (m : MethodId) (o : Nat) (v1 : Value) (a1 : Nat) (g0 : Value) (g1 : Value) (g2 : Value) (g3 : Value) (g4 : Value) (g5 : Value) (g6 : Value) (a_EMPTY_LIST : Nat) (a_EMPTY_SET : Nat) (rv1 : v1.isRef = true) : entryFrame m #[(.ref o), v1, .null, .null, (.ref a1), (.ref a_EMPTY_LIST), (.ref a_EMPTY_LIST), (.ref a_EMPTY_SET)] 8 = (mkF m 0 #[.val (.ref o), .val v1, .val .null, .val .null, .val (.ref a1), .val (.ref a_EMPTY_LIST), .val (.ref a_EMPTY_LIST), .val (.ref a_EMPTY_SET)] []) := by
  simp [entryFrame, mkF, argsToLocals, own_cR, own_cI, own_cJ, own_cN, own_cat rv1]
set_option maxRecDepth 65536 in
set_option maxHeartbeats 40000000 in
theorem rm_ri0 (l : Launch) (Z : State) (a0 : Array Value) (hw : ∀ d ∈ tables_1, d.before a0 Z = true) (ws : List Jvm.Cond) (o : Nat) (v1 : Value) (a1 : Nat) (g0 : Value) (g1 : Value) (g2 : Value) (g3 : Value) (g4 : Value) (g5 : Value) (g6 : Value) (a_EMPTY_LIST : Nat) (a_EMPTY_SET : Nat) (h0 : Heap) (n0 : Nat) (Z0 : n0 ≤ h0.size) (O0 : Old Z n0 h0) (Eo : Exa Z h0 o "com/example/fetcher/client/Received") (G0 : Fld Z h0 o "com/example/fetcher/client/Received" "replyTo" "Ljava/lang/String;" g0) (G1 : Fld Z h0 o "com/example/fetcher/client/Received" "errorCode" "Ljava/lang/String;" g1) (G2 : Fld Z h0 o "com/example/fetcher/client/Received" "errorText" "Ljava/lang/String;" g2) (G3 : Fld Z h0 o "com/example/fetcher/client/Received" "resources" "Ljava/util/List;" g3) (G4 : Fld Z h0 o "com/example/fetcher/client/Received" "returned" "Ljava/util/List;" g4) (G5 : Fld Z h0 o "com/example/fetcher/client/Received" "told" "Ljava/util/List;" g5) (G6 : Fld Z h0 o "com/example/fetcher/client/Received" "versions" "Ljava/util/Set;" g6) (rv1 : v1.isRef = true) (go : n0 ≤ o) (E1 : Exa Z h0 a1 "java/util/ArrayList") (F3 : Fld Z h0 a1 "java/util/ArrayList" "size" "I" (.int (0 : Int32))) (nea : a1 ≠ o) (E_a_EMPTY_LIST : Exa Z Z.heap a_EMPTY_LIST "java/util/ImmutableCollections$ListN") (F_a_EMPTY_LIST_allowNulls : Fld Z Z.heap a_EMPTY_LIST "java/util/ImmutableCollections$ListN" "allowNulls" "Z" (.int (0 : Int32))) (E_a_EMPTY_SET : Exa Z Z.heap a_EMPTY_SET "java/util/ImmutableCollections$SetN") (S_EMPTY_LIST : Sta Z Z.heap "java/util/ImmutableCollections" "EMPTY_LIST" "Ljava/util/ImmutableCollections$ListN;" (.ref a_EMPTY_LIST)) :
    MetFree l (⟨"com/example/fetcher/client/Received", "<init>", "(Ljava/lang/String;Ljava/lang/String;Ljava/lang/String;Ljava/util/List;Ljava/util/List;Ljava/util/List;Ljava/util/Set;)V"⟩ : MethodName) (head1 (Jvm.Cond.code (⟨"com/example/fetcher/client/Received", "<init>", "(Ljava/lang/String;Ljava/lang/String;Ljava/lang/String;Ljava/util/List;Ljava/util/List;Ljava/util/List;Ljava/util/Set;)V"⟩ : MethodName) prog_4_method_2_code 8 none :: ws) ({ frames := 3, cells := 0, slots := 0, locals := 38 } : Room)) (fun a_ U_ => a_ = #[(.ref o), v1, .null, .null, (.ref a1), (.ref a_EMPTY_LIST), (.ref a_EMPTY_LIST), (.ref a_EMPTY_SET)] ∧ Z.Warmed39 U_.vm ∧ U_.heap = h0) (fun _ _ _ _ _ => True) (fun _ U_ o_ U'_ => ∃ v_ L_, o_ = .returned v_ ∧ Q_ri0 Z o v1 a1 g0 g1 g2 g3 g4 g5 g6 a_EMPTY_LIST a_EMPTY_SET h0 n0 v_ U'_.heap L_ ∧ FrameEnd U_ o_ U'_ L_ ({ frames := 3, cells := 0, slots := 0, locals := 38 } : Room).cells ({ frames := 3, cells := 0, slots := 0, locals := 38 } : Room).slots) := by
  refine MetFree.of_bodySF (plainFor_of_name pn13) hisR ?_
  intro p e s m args below meth c s₁ Bd hml0 hP hK
  obtain ⟨rfl, hZ, hh⟩ := hP
  have hx := Bd.exec
  have hby := Bd.bytes
  have hml : c.maxLocals = 8 := hml0
  have hown : s.vm.findClass "com/example/fetcher/client/Received" = some m.cls := findClass_of_methodNamed Bd.named
  have hnm := (name_of_methodNamed Bd.named Bd.method).1
  have X0 : Stand p l e ({ frames := 3, cells := 0, slots := 0, locals := 38 } : Room) s m #[(.ref o), v1, .null, .null, (.ref a1), (.ref a_EMPTY_LIST), (.ref a_EMPTY_LIST), (.ref a_EMPTY_SET)] below meth c s₁ [] 0 0 := Stand.of_body Bd
  have e0 : s₁.heap = h0 := by rw [← hh, Bd.state]; rfl
  have N0 := Fr.nil n0
  have oz : Z.heap.size = n0 := O0.1
  have S0 : ∀ t_, Steps p.tables e below (s₁.setTop (mkF m 0 #[.val (.ref o), .val v1, .val .null, .val .null, .val (.ref a1), .val (.ref a_EMPTY_LIST), .val (.ref a_EMPTY_LIST), .val (.ref a_EMPTY_SET)] [])) t_ → Steps p.tables e below (s₁.setTop (entryFrame m #[(.ref o), v1, .null, .null, (.ref a1), (.ref a_EMPTY_LIST), (.ref a_EMPTY_LIST), (.ref a_EMPTY_SET)] 8)) t_ := fun t_ k_ => castTop (ef_ri0 m o v1 a1 g0 g1 g2 g3 g4 g5 g6 a_EMPTY_LIST a_EMPTY_SET rv1) k_
  have K0 := Keep.refl h0 [o]
  have lt_o : (o : Nat) < (h0.size : Nat) := Eo.lt
  have lt_a1 : (a1 : Nat) < (h0.size : Nat) := E1.lt
  have lt_a_EMPTY_LIST : (a_EMPTY_LIST : Nat) < (Z.heap.size : Nat) := E_a_EMPTY_LIST.lt
  have lt_a_EMPTY_SET : (a_EMPTY_SET : Nat) < (Z.heap.size : Nat) := E_a_EMPTY_SET.lt
  obtain ⟨T1, X1, e1, st1⟩ := initO X0 hx hZ hown (tw64 hw) (tw12 hw) (tw13 hw) e0 (g := (mkF m 1 #[.val (.ref o), .val v1, .val .null, .val .null, .val (.ref a1), .val (.ref a_EMPTY_LIST), .val (.ref a_EMPTY_LIST), .val (.ref a_EMPTY_SET)] [(.ref o)])) rfl (by rw [hml]; rfl) rfl (hb hby d_prog_4_method_2_1) (by decide) (W := 0) (by show 2 * 0 + _ ≤ _; exact Nat.le_of_eq rfl) (by decide)
  obtain ⟨T2, h2, X2, e2, W2, st2⟩ := putF X1 hx hZ hown (host := "") (Or.inl (tw65 hw)) Via.refl e1 G0 Eo (Or.inr ⟨(tw66 hw), rfl, hnm⟩) (tw49 hw) (ty := (.object "java/lang/String")) (by decide) rfl (by rcases ref_cases rv1 with q | ⟨_, q⟩ <;> subst q <;> rfl) (g := (mkF m 6 #[.val (.ref o), .val v1, .val .null, .val .null, .val (.ref a1), .val (.ref a_EMPTY_LIST), .val (.ref a_EMPTY_LIST), .val (.ref a_EMPTY_SET)] [v1, (.ref o)])) rfl rfl (hb hby d_prog_4_method_2_6)
  have z2 := W2.size
  have K2 := K0.wr W2 (Or.inl (by simp))
  have N2 := Fr.snoc X2 N0 (by omega)
  have O2 := O0.wr W2 (by omega)
  have fw2 := G0.same W2
  have f3 := (Eo.wr W2)
  have f4 := (G1.other W2 (Or.inr (slot_ne (Or.inr (tw68 hw)) (Or.inr (tw66 hw)) (by decide) (t := (.object "java/lang/String")) (t' := (.object "java/lang/String")) (by decide) (by decide))))
  obtain ⟨T5, h5, X5, e5, W5, st5⟩ := putF X2 hx hZ hown (host := "") (Or.inl (tw67 hw)) Via.refl e2 f4 f3 (Or.inr ⟨(tw68 hw), rfl, hnm⟩) (tw49 hw) (ty := (.object "java/lang/String")) (by decide) rfl rfl (g := (mkF m 11 #[.val (.ref o), .val v1, .val .null, .val .null, .val (.ref a1), .val (.ref a_EMPTY_LIST), .val (.ref a_EMPTY_LIST), .val (.ref a_EMPTY_SET)] [.null, (.ref o)])) rfl rfl (hb hby d_prog_4_method_2_11)
  have z5 := W5.size
  have K5 := K2.wr W5 (Or.inl (by simp))
  have N5 := Fr.snoc X5 N2 (by omega)
  have O5 := O2.wr W5 (by omega)
  have fw5 := f4.same W5
  have f6 := (f3.wr W5)
  have f7 := ((G2.other W2 (Or.inr (slot_ne (Or.inr (tw70 hw)) (Or.inr (tw66 hw)) (by decide) (t := (.object "java/lang/String")) (t' := (.object "java/lang/String")) (by decide) (by decide)))).other W5 (Or.inr (slot_ne (Or.inr (tw70 hw)) (Or.inr (tw68 hw)) (by decide) (t := (.object "java/lang/String")) (t' := (.object "java/lang/String")) (by decide) (by decide))))
  obtain ⟨T8, h8, X8, e8, W8, st8⟩ := putF X5 hx hZ hown (host := "") (Or.inl (tw69 hw)) Via.refl e5 f7 f6 (Or.inr ⟨(tw70 hw), rfl, hnm⟩) (tw49 hw) (ty := (.object "java/lang/String")) (by decide) rfl rfl (g := (mkF m 16 #[.val (.ref o), .val v1, .val .null, .val .null, .val (.ref a1), .val (.ref a_EMPTY_LIST), .val (.ref a_EMPTY_LIST), .val (.ref a_EMPTY_SET)] [.null, (.ref o)])) rfl rfl (hb hby d_prog_4_method_2_16)
  have z8 := W8.size
  have K8 := K5.wr W8 (Or.inl (by simp))
  have N8 := Fr.snoc X8 N5 (by omega)
  have O8 := O5.wr W8 (by omega)
  have fw8 := f7.same W8
  have f9 := (((E1.wr W2).wr W5).wr W8)
  have f10 := (((F3.other W2 (Or.inl (by omega : (a1 : Nat) ≠ (o : Nat)))).other W5 (Or.inl (by omega : (a1 : Nat) ≠ (o : Nat)))).other W8 (Or.inl (by omega : (a1 : Nat) ≠ (o : Nat))))
  obtain ⟨_, _, ⟨T11, L11, k11, n11⟩, -, X11, ⟨Lc11, hQ11, l11, y11, z11⟩, st11⟩ := Jvm.LawKit.callS X8 hx (y := (⟨"java/util/List", "copyOf", "(Ljava/util/Collection;)Ljava/util/List;"⟩ : MethodName)) hown (mvT hZ (tw71 hw)) (mvT hZ (tw72 hw)) (mvT hZ (tw52 hw)) (mvT hZ (tw73 hw)) (by decide) (backOf (W := 1) (rm_co0 l Z a0 hw [] a1 a_EMPTY_LIST h8 n0 (by omega) O8 f9 f10 S_EMPTY_LIST) hZ (tw73 hw) (tw52 hw) (by decide) (by decide)) (g := (mkF m 22 #[.val (.ref o), .val v1, .val .null, .val .null, .val (.ref a1), .val (.ref a_EMPTY_LIST), .val (.ref a_EMPTY_LIST), .val (.ref a_EMPTY_SET)] [(.ref a1), (.ref o)])) rfl (by rw [hml]; rfl) (argsL := [(.ref a1)]) (rest := [(.ref o)]) (lenOf pd3 rfl) rfl (by show 2 * 0 + _ ≤ _; exact Nat.le_of_eq rfl) (hb hby d_prog_4_method_2_22) (fun _ _ => ⟨rfl, e8, (by decide : 0 + 0 ≤ _), (by decide : 0 + 0 ≤ _)⟩)
  dsimp only [Pt.U, Pt.locs, Pt.cells, Pt.slots] at X11 l11 y11 z11 st11 hQ11
  subst l11 y11 z11
  obtain ⟨rfl, N11q, Kq11⟩ := hQ11
  have N11 := Fr.app N8 N11q
  have f12 := (f6.wr W8)
  have f13 := (((G3.other W2 (Or.inr (slot_ne (Or.inr (tw90 hw)) (Or.inr (tw66 hw)) (by decide) (t := (.object "java/util/List")) (t' := (.object "java/lang/String")) (by decide) (by decide)))).other W5 (Or.inr (slot_ne (Or.inr (tw90 hw)) (Or.inr (tw68 hw)) (by decide) (t := (.object "java/util/List")) (t' := (.object "java/lang/String")) (by decide) (by decide)))).other W8 (Or.inr (slot_ne (Or.inr (tw90 hw)) (Or.inr (tw70 hw)) (by decide) (t := (.object "java/util/List")) (t' := (.object "java/lang/String")) (by decide) (by decide))))
  obtain ⟨T14, h14, X14, e14, W14, st14⟩ := putF X11 hx hZ hown (host := "") (Or.inl (tw89 hw)) Via.refl Kq11 f13 f12 (Or.inr ⟨(tw90 hw), rfl, hnm⟩) (tw49 hw) (ty := (.object "java/util/List")) (by decide) rfl rfl (g := (mkF m 25 #[.val (.ref o), .val v1, .val .null, .val .null, .val (.ref a1), .val (.ref a_EMPTY_LIST), .val (.ref a_EMPTY_LIST), .val (.ref a_EMPTY_SET)] [(.ref a_EMPTY_LIST), (.ref o)])) rfl rfl (hb hby d_prog_4_method_2_25)
  have z14 := W14.size
  have K14 := K8.wr W14 (Or.inl (by simp))
  have N14 := Fr.snoc X14 N11 (by omega)
  have O14 := O8.wr W14 (by omega)
  have fw14 := f13.same W14
  obtain ⟨_, _, ⟨T15, L15, k15, n15⟩, -, X15, ⟨Lc15, hQ15, l15, y15, z15⟩, st15⟩ := Jvm.LawKit.callS X14 hx (y := (⟨"java/util/List", "copyOf", "(Ljava/util/Collection;)Ljava/util/List;"⟩ : MethodName)) hown (mvT hZ (tw71 hw)) (mvT hZ (tw72 hw)) (mvT hZ (tw52 hw)) (mvT hZ (tw73 hw)) (by decide) (backOf (W := 1) (rm_coE l Z a0 hw [] a_EMPTY_LIST h14 n0 (by omega) O14 E_a_EMPTY_LIST F_a_EMPTY_LIST_allowNulls) hZ (tw73 hw) (tw52 hw) (by decide) (by decide)) (g := (mkF m 31 #[.val (.ref o), .val v1, .val .null, .val .null, .val (.ref a1), .val (.ref a_EMPTY_LIST), .val (.ref a_EMPTY_LIST), .val (.ref a_EMPTY_SET)] [(.ref a_EMPTY_LIST), (.ref o)])) rfl (by rw [hml]; rfl) (argsL := [(.ref a_EMPTY_LIST)]) (rest := [(.ref o)]) (lenOf pd3 rfl) rfl (by show 2 * 0 + _ ≤ _; exact Nat.le_of_eq rfl) (hb hby d_prog_4_method_2_31) (fun _ _ => ⟨rfl, e14, (by decide : 0 + 0 ≤ _), (by decide : 0 + 0 ≤ _)⟩)
  dsimp only [Pt.U, Pt.locs, Pt.cells, Pt.slots] at X15 l15 y15 z15 st15 hQ15
  subst l15 y15 z15
  obtain ⟨rfl, N15q, Kq15⟩ := hQ15
  have N15 := Fr.app N14 N15q
  have f16 := (f12.wr W14)
  have f17 := ((((G4.other W2 (Or.inr (slot_ne (Or.inr (tw92 hw)) (Or.inr (tw66 hw)) (by decide) (t := (.object "java/util/List")) (t' := (.object "java/lang/String")) (by decide) (by decide)))).other W5 (Or.inr (slot_ne (Or.inr (tw92 hw)) (Or.inr (tw68 hw)) (by decide) (t := (.object "java/util/List")) (t' := (.object "java/lang/String")) (by decide) (by decide)))).other W8 (Or.inr (slot_ne (Or.inr (tw92 hw)) (Or.inr (tw70 hw)) (by decide) (t := (.object "java/util/List")) (t' := (.object "java/lang/String")) (by decide) (by decide)))).other W14 (Or.inr (slot_ne (Or.inr (tw92 hw)) (Or.inr (tw90 hw)) (by decide) (t := (.object "java/util/List")) (t' := (.object "java/util/List")) (by decide) (by decide))))
  obtain ⟨T18, h18, X18, e18, W18, st18⟩ := putF X15 hx hZ hown (host := "") (Or.inl (tw91 hw)) Via.refl Kq15 f17 f16 (Or.inr ⟨(tw92 hw), rfl, hnm⟩) (tw49 hw) (ty := (.object "java/util/List")) (by decide) rfl rfl (g := (mkF m 34 #[.val (.ref o), .val v1, .val .null, .val .null, .val (.ref a1), .val (.ref a_EMPTY_LIST), .val (.ref a_EMPTY_LIST), .val (.ref a_EMPTY_SET)] [(.ref a_EMPTY_LIST), (.ref o)])) rfl rfl (hb hby d_prog_4_method_2_34)
  have z18 := W18.size
  have K18 := K14.wr W18 (Or.inl (by simp))
  have N18 := Fr.snoc X18 N15 (by omega)
  have O18 := O14.wr W18 (by omega)
  have fw18 := f17.same W18
  obtain ⟨_, _, ⟨T19, L19, k19, n19⟩, -, X19, ⟨Lc19, hQ19, l19, y19, z19⟩, st19⟩ := Jvm.LawKit.callS X18 hx (y := (⟨"java/util/List", "copyOf", "(Ljava/util/Collection;)Ljava/util/List;"⟩ : MethodName)) hown (mvT hZ (tw71 hw)) (mvT hZ (tw72 hw)) (mvT hZ (tw52 hw)) (mvT hZ (tw73 hw)) (by decide) (backOf (W := 1) (rm_coE l Z a0 hw [] a_EMPTY_LIST h18 n0 (by omega) O18 E_a_EMPTY_LIST F_a_EMPTY_LIST_allowNulls) hZ (tw73 hw) (tw52 hw) (by decide) (by decide)) (g := (mkF m 40 #[.val (.ref o), .val v1, .val .null, .val .null, .val (.ref a1), .val (.ref a_EMPTY_LIST), .val (.ref a_EMPTY_LIST), .val (.ref a_EMPTY_SET)] [(.ref a_EMPTY_LIST), (.ref o)])) rfl (by rw [hml]; rfl) (argsL := [(.ref a_EMPTY_LIST)]) (rest := [(.ref o)]) (lenOf pd3 rfl) rfl (by show 2 * 0 + _ ≤ _; exact Nat.le_of_eq rfl) (hb hby d_prog_4_method_2_40) (fun _ _ => ⟨rfl, e18, (by decide : 0 + 0 ≤ _), (by decide : 0 + 0 ≤ _)⟩)
  dsimp only [Pt.U, Pt.locs, Pt.cells, Pt.slots] at X19 l19 y19 z19 st19 hQ19
  subst l19 y19 z19
  obtain ⟨rfl, N19q, Kq19⟩ := hQ19
  have N19 := Fr.app N18 N19q
  have f20 := (f16.wr W18)
  have f21 := (((((G5.other W2 (Or.inr (slot_ne (Or.inr (tw94 hw)) (Or.inr (tw66 hw)) (by decide) (t := (.object "java/util/List")) (t' := (.object "java/lang/String")) (by decide) (by decide)))).other W5 (Or.inr (slot_ne (Or.inr (tw94 hw)) (Or.inr (tw68 hw)) (by decide) (t := (.object "java/util/List")) (t' := (.object "java/lang/String")) (by decide) (by decide)))).other W8 (Or.inr (slot_ne (Or.inr (tw94 hw)) (Or.inr (tw70 hw)) (by decide) (t := (.object "java/util/List")) (t' := (.object "java/lang/String")) (by decide) (by decide)))).other W14 (Or.inr (slot_ne (Or.inr (tw94 hw)) (Or.inr (tw90 hw)) (by decide) (t := (.object "java/util/List")) (t' := (.object "java/util/List")) (by decide) (by decide)))).other W18 (Or.inr (slot_ne (Or.inr (tw94 hw)) (Or.inr (tw92 hw)) (by decide) (t := (.object "java/util/List")) (t' := (.object "java/util/List")) (by decide) (by decide))))
  obtain ⟨T22, h22, X22, e22, W22, st22⟩ := putF X19 hx hZ hown (host := "") (Or.inl (tw93 hw)) Via.refl Kq19 f21 f20 (Or.inr ⟨(tw94 hw), rfl, hnm⟩) (tw49 hw) (ty := (.object "java/util/List")) (by decide) rfl rfl (g := (mkF m 43 #[.val (.ref o), .val v1, .val .null, .val .null, .val (.ref a1), .val (.ref a_EMPTY_LIST), .val (.ref a_EMPTY_LIST), .val (.ref a_EMPTY_SET)] [(.ref a_EMPTY_LIST), (.ref o)])) rfl rfl (hb hby d_prog_4_method_2_43)
  have z22 := W22.size
  have K22 := K18.wr W22 (Or.inl (by simp))
  have N22 := Fr.snoc X22 N19 (by omega)
  have O22 := O18.wr W22 (by omega)
  have fw22 := f21.same W22
  obtain ⟨_, _, ⟨T23, L23, k23, n23⟩, -, X23, ⟨Lc23, hQ23, l23, y23, z23⟩, st23⟩ := Jvm.LawKit.callS X22 hx (y := (⟨"java/util/Set", "copyOf", "(Ljava/util/Collection;)Ljava/util/Set;"⟩ : MethodName)) hown (mvT hZ (tw95 hw)) (mvT hZ (tw96 hw)) (mvT hZ (tw58 hw)) (mvT hZ (tw97 hw)) (by decide) (backOf (W := 1) (rm_scE l Z a0 hw [] a_EMPTY_SET h22 n0 (by omega) O22 E_a_EMPTY_SET) hZ (tw97 hw) (tw58 hw) (by decide) (by decide)) (g := (mkF m 49 #[.val (.ref o), .val v1, .val .null, .val .null, .val (.ref a1), .val (.ref a_EMPTY_LIST), .val (.ref a_EMPTY_LIST), .val (.ref a_EMPTY_SET)] [(.ref a_EMPTY_SET), (.ref o)])) rfl (by rw [hml]; rfl) (argsL := [(.ref a_EMPTY_SET)]) (rest := [(.ref o)]) (lenOf pd16 rfl) rfl (by show 2 * 0 + _ ≤ _; exact Nat.le_of_eq rfl) (hb hby d_prog_4_method_2_49) (fun _ _ => ⟨rfl, e22, (by decide : 0 + 0 ≤ _), (by decide : 0 + 0 ≤ _)⟩)
  dsimp only [Pt.U, Pt.locs, Pt.cells, Pt.slots] at X23 l23 y23 z23 st23 hQ23
  subst l23 y23 z23
  obtain ⟨rfl, N23q, Kq23⟩ := hQ23
  have N23 := Fr.app N22 N23q
  have f24 := (f20.wr W22)
  have f25 := ((((((G6.other W2 (Or.inr (slot_ne (Or.inr (tw103 hw)) (Or.inr (tw66 hw)) (by decide) (t := (.object "java/util/Set")) (t' := (.object "java/lang/String")) (by decide) (by decide)))).other W5 (Or.inr (slot_ne (Or.inr (tw103 hw)) (Or.inr (tw68 hw)) (by decide) (t := (.object "java/util/Set")) (t' := (.object "java/lang/String")) (by decide) (by decide)))).other W8 (Or.inr (slot_ne (Or.inr (tw103 hw)) (Or.inr (tw70 hw)) (by decide) (t := (.object "java/util/Set")) (t' := (.object "java/lang/String")) (by decide) (by decide)))).other W14 (Or.inr (slot_ne (Or.inr (tw103 hw)) (Or.inr (tw90 hw)) (by decide) (t := (.object "java/util/Set")) (t' := (.object "java/util/List")) (by decide) (by decide)))).other W18 (Or.inr (slot_ne (Or.inr (tw103 hw)) (Or.inr (tw92 hw)) (by decide) (t := (.object "java/util/Set")) (t' := (.object "java/util/List")) (by decide) (by decide)))).other W22 (Or.inr (slot_ne (Or.inr (tw103 hw)) (Or.inr (tw94 hw)) (by decide) (t := (.object "java/util/Set")) (t' := (.object "java/util/List")) (by decide) (by decide))))
  obtain ⟨T26, h26, X26, e26, W26, st26⟩ := putF X23 hx hZ hown (host := "") (Or.inl (tw102 hw)) Via.refl Kq23 f25 f24 (Or.inr ⟨(tw103 hw), rfl, hnm⟩) (tw49 hw) (ty := (.object "java/util/Set")) (by decide) rfl rfl (g := (mkF m 52 #[.val (.ref o), .val v1, .val .null, .val .null, .val (.ref a1), .val (.ref a_EMPTY_LIST), .val (.ref a_EMPTY_LIST), .val (.ref a_EMPTY_SET)] [(.ref a_EMPTY_SET), (.ref o)])) rfl rfl (hb hby d_prog_4_method_2_52)
  have z26 := W26.size
  have K26 := K22.wr W26 (Or.inl (by simp))
  have N26 := Fr.snoc X26 N23 (by omega)
  have O26 := O22.wr W26 (by omega)
  have fw26 := f25.same W26
  have S27 : ∀ t_, Steps p.tables e below (T26.setTop (mkF m 55 #[.val (.ref o), .val v1, .val .null, .val .null, .val (.ref a1), .val (.ref a_EMPTY_LIST), .val (.ref a_EMPTY_LIST), .val (.ref a_EMPTY_SET)] [])) t_ → Steps p.tables e below (s₁.setTop (entryFrame m #[(.ref o), v1, .null, .null, (.ref a1), (.ref a_EMPTY_LIST), (.ref a_EMPTY_LIST), (.ref a_EMPTY_SET)] 8)) t_ := by
    intro t_ k_
    refine S0 t_ ?_
    show Steps p.tables e below (s₁.setTop (mkF m 0 #[.val (.ref o), .val v1, .val .null, .val .null, .val (.ref a1), .val (.ref a_EMPTY_LIST), .val (.ref a_EMPTY_LIST), .val (.ref a_EMPTY_SET)] [])) _
    refine XS.aloadN X0.here hx rfl (hb hby d_prog_4_method_2_0) rfl rfl ?_
    show Steps p.tables e below (s₁.setTop (mkF m 1 #[.val (.ref o), .val v1, .val .null, .val .null, .val (.ref a1), .val (.ref a_EMPTY_LIST), .val (.ref a_EMPTY_LIST), .val (.ref a_EMPTY_SET)] [(.ref o)])) _
    refine st1 _ ?_
    show Steps p.tables e below (T1.setTop (mkF m 4 #[.val (.ref o), .val v1, .val .null, .val .null, .val (.ref a1), .val (.ref a_EMPTY_LIST), .val (.ref a_EMPTY_LIST), .val (.ref a_EMPTY_SET)] [])) _
    refine XS.aloadN X1.here hx rfl (hb hby d_prog_4_method_2_4) rfl rfl ?_
    show Steps p.tables e below (T1.setTop (mkF m 5 #[.val (.ref o), .val v1, .val .null, .val .null, .val (.ref a1), .val (.ref a_EMPTY_LIST), .val (.ref a_EMPTY_LIST), .val (.ref a_EMPTY_SET)] [(.ref o)])) _
    refine XS.aloadN X1.here hx rfl (hb hby d_prog_4_method_2_5) rfl rv1 ?_
    show Steps p.tables e below (T1.setTop (mkF m 6 #[.val (.ref o), .val v1, .val .null, .val .null, .val (.ref a1), .val (.ref a_EMPTY_LIST), .val (.ref a_EMPTY_LIST), .val (.ref a_EMPTY_SET)] [v1, (.ref o)])) _
    refine st2 _ ?_
    show Steps p.tables e below (T2.setTop (mkF m 9 #[.val (.ref o), .val v1, .val .null, .val .null, .val (.ref a1), .val (.ref a_EMPTY_LIST), .val (.ref a_EMPTY_LIST), .val (.ref a_EMPTY_SET)] [])) _
    refine XS.aloadN X2.here hx rfl (hb hby d_prog_4_method_2_9) rfl rfl ?_
    show Steps p.tables e below (T2.setTop (mkF m 10 #[.val (.ref o), .val v1, .val .null, .val .null, .val (.ref a1), .val (.ref a_EMPTY_LIST), .val (.ref a_EMPTY_LIST), .val (.ref a_EMPTY_SET)] [(.ref o)])) _
    refine XS.aloadN X2.here hx rfl (hb hby d_prog_4_method_2_10) rfl rfl ?_
    show Steps p.tables e below (T2.setTop (mkF m 11 #[.val (.ref o), .val v1, .val .null, .val .null, .val (.ref a1), .val (.ref a_EMPTY_LIST), .val (.ref a_EMPTY_LIST), .val (.ref a_EMPTY_SET)] [.null, (.ref o)])) _
    refine st5 _ ?_
    show Steps p.tables e below (T5.setTop (mkF m 14 #[.val (.ref o), .val v1, .val .null, .val .null, .val (.ref a1), .val (.ref a_EMPTY_LIST), .val (.ref a_EMPTY_LIST), .val (.ref a_EMPTY_SET)] [])) _
    refine XS.aloadN X5.here hx rfl (hb hby d_prog_4_method_2_14) rfl rfl ?_
    show Steps p.tables e below (T5.setTop (mkF m 15 #[.val (.ref o), .val v1, .val .null, .val .null, .val (.ref a1), .val (.ref a_EMPTY_LIST), .val (.ref a_EMPTY_LIST), .val (.ref a_EMPTY_SET)] [(.ref o)])) _
    refine XS.aloadN X5.here hx rfl (hb hby d_prog_4_method_2_15) rfl rfl ?_
    show Steps p.tables e below (T5.setTop (mkF m 16 #[.val (.ref o), .val v1, .val .null, .val .null, .val (.ref a1), .val (.ref a_EMPTY_LIST), .val (.ref a_EMPTY_LIST), .val (.ref a_EMPTY_SET)] [.null, (.ref o)])) _
    refine st8 _ ?_
    show Steps p.tables e below (T8.setTop (mkF m 19 #[.val (.ref o), .val v1, .val .null, .val .null, .val (.ref a1), .val (.ref a_EMPTY_LIST), .val (.ref a_EMPTY_LIST), .val (.ref a_EMPTY_SET)] [])) _
    refine XS.aloadN X8.here hx rfl (hb hby d_prog_4_method_2_19) rfl rfl ?_
    show Steps p.tables e below (T8.setTop (mkF m 20 #[.val (.ref o), .val v1, .val .null, .val .null, .val (.ref a1), .val (.ref a_EMPTY_LIST), .val (.ref a_EMPTY_LIST), .val (.ref a_EMPTY_SET)] [(.ref o)])) _
    refine XS.aload X8.here hx rfl (hb hby d_prog_4_method_2_20) rfl rfl ?_
    show Steps p.tables e below (T8.setTop (mkF m 22 #[.val (.ref o), .val v1, .val .null, .val .null, .val (.ref a1), .val (.ref a_EMPTY_LIST), .val (.ref a_EMPTY_LIST), .val (.ref a_EMPTY_SET)] [(.ref a1), (.ref o)])) _
    refine st11 _ ?_
    show Steps p.tables e below (T11.setTop (mkF m 25 #[.val (.ref o), .val v1, .val .null, .val .null, .val (.ref a1), .val (.ref a_EMPTY_LIST), .val (.ref a_EMPTY_LIST), .val (.ref a_EMPTY_SET)] [(.ref a_EMPTY_LIST), (.ref o)])) _
    refine st14 _ ?_
    show Steps p.tables e below (T14.setTop (mkF m 28 #[.val (.ref o), .val v1, .val .null, .val .null, .val (.ref a1), .val (.ref a_EMPTY_LIST), .val (.ref a_EMPTY_LIST), .val (.ref a_EMPTY_SET)] [])) _
    refine XS.aloadN X14.here hx rfl (hb hby d_prog_4_method_2_28) rfl rfl ?_
    show Steps p.tables e below (T14.setTop (mkF m 29 #[.val (.ref o), .val v1, .val .null, .val .null, .val (.ref a1), .val (.ref a_EMPTY_LIST), .val (.ref a_EMPTY_LIST), .val (.ref a_EMPTY_SET)] [(.ref o)])) _
    refine XS.aload X14.here hx rfl (hb hby d_prog_4_method_2_29) rfl rfl ?_
    show Steps p.tables e below (T14.setTop (mkF m 31 #[.val (.ref o), .val v1, .val .null, .val .null, .val (.ref a1), .val (.ref a_EMPTY_LIST), .val (.ref a_EMPTY_LIST), .val (.ref a_EMPTY_SET)] [(.ref a_EMPTY_LIST), (.ref o)])) _
    refine st15 _ ?_
    show Steps p.tables e below (T15.setTop (mkF m 34 #[.val (.ref o), .val v1, .val .null, .val .null, .val (.ref a1), .val (.ref a_EMPTY_LIST), .val (.ref a_EMPTY_LIST), .val (.ref a_EMPTY_SET)] [(.ref a_EMPTY_LIST), (.ref o)])) _
    refine st18 _ ?_
    show Steps p.tables e below (T18.setTop (mkF m 37 #[.val (.ref o), .val v1, .val .null, .val .null, .val (.ref a1), .val (.ref a_EMPTY_LIST), .val (.ref a_EMPTY_LIST), .val (.ref a_EMPTY_SET)] [])) _
    refine XS.aloadN X18.here hx rfl (hb hby d_prog_4_method_2_37) rfl rfl ?_
    show Steps p.tables e below (T18.setTop (mkF m 38 #[.val (.ref o), .val v1, .val .null, .val .null, .val (.ref a1), .val (.ref a_EMPTY_LIST), .val (.ref a_EMPTY_LIST), .val (.ref a_EMPTY_SET)] [(.ref o)])) _
    refine XS.aload X18.here hx rfl (hb hby d_prog_4_method_2_38) rfl rfl ?_
    show Steps p.tables e below (T18.setTop (mkF m 40 #[.val (.ref o), .val v1, .val .null, .val .null, .val (.ref a1), .val (.ref a_EMPTY_LIST), .val (.ref a_EMPTY_LIST), .val (.ref a_EMPTY_SET)] [(.ref a_EMPTY_LIST), (.ref o)])) _
    refine st19 _ ?_
    show Steps p.tables e below (T19.setTop (mkF m 43 #[.val (.ref o), .val v1, .val .null, .val .null, .val (.ref a1), .val (.ref a_EMPTY_LIST), .val (.ref a_EMPTY_LIST), .val (.ref a_EMPTY_SET)] [(.ref a_EMPTY_LIST), (.ref o)])) _
    refine st22 _ ?_
    show Steps p.tables e below (T22.setTop (mkF m 46 #[.val (.ref o), .val v1, .val .null, .val .null, .val (.ref a1), .val (.ref a_EMPTY_LIST), .val (.ref a_EMPTY_LIST), .val (.ref a_EMPTY_SET)] [])) _
    refine XS.aloadN X22.here hx rfl (hb hby d_prog_4_method_2_46) rfl rfl ?_
    show Steps p.tables e below (T22.setTop (mkF m 47 #[.val (.ref o), .val v1, .val .null, .val .null, .val (.ref a1), .val (.ref a_EMPTY_LIST), .val (.ref a_EMPTY_LIST), .val (.ref a_EMPTY_SET)] [(.ref o)])) _
    refine XS.aload X22.here hx rfl (hb hby d_prog_4_method_2_47) rfl rfl ?_
    show Steps p.tables e below (T22.setTop (mkF m 49 #[.val (.ref o), .val v1, .val .null, .val .null, .val (.ref a1), .val (.ref a_EMPTY_LIST), .val (.ref a_EMPTY_LIST), .val (.ref a_EMPTY_SET)] [(.ref a_EMPTY_SET), (.ref o)])) _
    refine st23 _ ?_
    show Steps p.tables e below (T23.setTop (mkF m 52 #[.val (.ref o), .val v1, .val .null, .val .null, .val (.ref a1), .val (.ref a_EMPTY_LIST), .val (.ref a_EMPTY_LIST), .val (.ref a_EMPTY_SET)] [(.ref a_EMPTY_SET), (.ref o)])) _
    refine st26 _ ?_
    exact k_
  obtain ⟨fs, hr, hrun, hended, hW, hsame⟩ := X26.leave (v := none) (fun _ => rfl)
  refine ⟨_, _, S27 _ (X26.returnOut hx Bd.returns (hb hby d_prog_4_method_2_55) hr), hrun, hended, _, _, rfl, ?_, ⟨_, rfl⟩, hW, hsame.mono (by decide) (by decide)⟩
  show Q_ri0 Z o v1 a1 g0 g1 g2 g3 g4 g5 g6 a_EMPTY_LIST a_EMPTY_SET h0 n0 _ T26.heap _
  rw [e26]
  have f28 := (f24.wr W26)
  have f29 := (((((fw5.other W8 (Or.inr (slot_ne (Or.inr (tw68 hw)) (Or.inr (tw70 hw)) (by decide) (t := (.object "java/lang/String")) (t' := (.object "java/lang/String")) (by decide) (by decide)))).other W14 (Or.inr (slot_ne (Or.inr (tw68 hw)) (Or.inr (tw90 hw)) (by decide) (t := (.object "java/lang/String")) (t' := (.object "java/util/List")) (by decide) (by decide)))).other W18 (Or.inr (slot_ne (Or.inr (tw68 hw)) (Or.inr (tw92 hw)) (by decide) (t := (.object "java/lang/String")) (t' := (.object "java/util/List")) (by decide) (by decide)))).other W22 (Or.inr (slot_ne (Or.inr (tw68 hw)) (Or.inr (tw94 hw)) (by decide) (t := (.object "java/lang/String")) (t' := (.object "java/util/List")) (by decide) (by decide)))).other W26 (Or.inr (slot_ne (Or.inr (tw68 hw)) (Or.inr (tw103 hw)) (by decide) (t := (.object "java/lang/String")) (t' := (.object "java/util/Set")) (by decide) (by decide))))
  exact ⟨rfl, N26, K26, f28, f29⟩
def Q_ri1 (Z : State) (o : Nat) (v1 : Value) (a1 : Nat) (b : Nat) (x : Nat) (kb : ClassId) (mO : Nat) (a_EMPTY : Nat) (g0 : Value) (g1 : Value) (g2 : Value) (g3 : Value) (g4 : Value) (g5 : Value) (g6 : Value) (a_EMPTY_LIST : Nat) (a_EMPTY_SET : Nat) (h0 : Heap) (n0 : Nat) (v : Option Value) (h : Heap) (L : List Loc) : Prop := v = none ∧ Fr n0 L ∧ Keep h0 h [o] ∧ (Exa Z h o "com/example/fetcher/client/Received") ∧ (Fld Z h o "com/example/fetcher/client/Received" "errorCode" "Ljava/lang/String;" .null)
theorem ef_ri1 (m : MethodId) (o : Nat) (v1 : Value) (a1 : Nat) (b : Nat) (x : Nat) (kb : ClassId) (mO : Nat) (a_EMPTY : Nat) (g0 : Value) (g1 : Value) (g2 : Value) (g3 : Value) (g4 : Value) (g5 : Value) (g6 : Value) (a_EMPTY_LIST : Nat) (a_EMPTY_SET : Nat) (rv1 : v1.isRef = true) : entryFrame m #[(.ref o), v1, .null, .null, (.ref a1), (.ref a_EMPTY_LIST), (.ref a_EMPTY_LIST), (.ref a_EMPTY_SET)] 8 = (mkF m 0 #[.val (.ref o), .val v1, .val .null, .val .null, .val (.ref a1), .val (.ref a_EMPTY_LIST), .val (.ref a_EMPTY_LIST), .val (.ref a_EMPTY_SET)] []) := by
  simp [entryFrame, mkF, argsToLocals, own_cR, own_cI, own_cJ, own_cN, own_cat rv1]
set_option maxRecDepth 65536 in
set_option maxHeartbeats 40000000 in
theorem rm_ri1 (l : Launch) (Z : State) (a0 : Array Value) (hw : ∀ d ∈ tables_1, d.before a0 Z = true) (ws : List Jvm.Cond) (o : Nat) (v1 : Value) (a1 : Nat) (b : Nat) (x : Nat) (kb : ClassId) (mO : Nat) (a_EMPTY : Nat) (g0 : Value) (g1 : Value) (g2 : Value) (g3 : Value) (g4 : Value) (g5 : Value) (g6 : Value) (a_EMPTY_LIST : Nat) (a_EMPTY_SET : Nat) (h0 : Heap) (n0 : Nat) (Z0 : n0 ≤ h0.size) (O0 : Old Z n0 h0) (Eo : Exa Z h0 o "com/example/fetcher/client/Received") (G0 : Fld Z h0 o "com/example/fetcher/client/Received" "replyTo" "Ljava/lang/String;" g0) (G1 : Fld Z h0 o "com/example/fetcher/client/Received" "errorCode" "Ljava/lang/String;" g1) (G2 : Fld Z h0 o "com/example/fetcher/client/Received" "errorText" "Ljava/lang/String;" g2) (G3 : Fld Z h0 o "com/example/fetcher/client/Received" "resources" "Ljava/util/List;" g3) (G4 : Fld Z h0 o "com/example/fetcher/client/Received" "returned" "Ljava/util/List;" g4) (G5 : Fld Z h0 o "com/example/fetcher/client/Received" "told" "Ljava/util/List;" g5) (G6 : Fld Z h0 o "com/example/fetcher/client/Received" "versions" "Ljava/util/Set;" g6) (rv1 : v1.isRef = true) (go : n0 ≤ o) (nea : a1 ≠ o) (neb : b ≠ o) (nex : x ≠ o) (E1 : Exa Z h0 a1 "java/util/ArrayList") (F2 : Fld Z h0 a1 "java/util/ArrayList" "elementData" "[Ljava/lang/Object;" (.ref b)) (F3 : Fld Z h0 a1 "java/util/ArrayList" "size" "I" (.int (1 : Int32))) (A1 : Arv Z h0 b kb (.object "java/lang/Object") (10 : Int32) [(.ref x), .null, .null, .null, .null, .null, .null, .null, .null, .null] .null) (Eb : Exa Z h0 b "[Ljava/lang/Object;") (Ex : Exa Z h0 x "java/lang/String") (hmir : own_Mir Z "[Ljava/lang/Object;" mO) (S_EMPTY : Sta Z Z.heap "java/util/ImmutableCollections" "EMPTY" "Ljava/lang/Object;" (.ref a_EMPTY)) (E_a_EMPTY_LIST : Exa Z Z.heap a_EMPTY_LIST "java/util/ImmutableCollections$ListN") (F_a_EMPTY_LIST_allowNulls : Fld Z Z.heap a_EMPTY_LIST "java/util/ImmutableCollections$ListN" "allowNulls" "Z" (.int (0 : Int32))) (E_a_EMPTY_SET : Exa Z Z.heap a_EMPTY_SET "java/util/ImmutableCollections$SetN") :
    MetFree l (⟨"com/example/fetcher/client/Received", "<init>", "(Ljava/lang/String;Ljava/lang/String;Ljava/lang/String;Ljava/util/List;Ljava/util/List;Ljava/util/List;Ljava/util/Set;)V"⟩ : MethodName) (head1 (Jvm.Cond.code (⟨"com/example/fetcher/client/Received", "<init>", "(Ljava/lang/String;Ljava/lang/String;Ljava/lang/String;Ljava/util/List;Ljava/util/List;Ljava/util/List;Ljava/util/Set;)V"⟩ : MethodName) prog_4_method_2_code 8 none :: ws) ({ frames := 8, cells := 2, slots := 3, locals := 106 } : Room)) (fun a_ U_ => a_ = #[(.ref o), v1, .null, .null, (.ref a1), (.ref a_EMPTY_LIST), (.ref a_EMPTY_LIST), (.ref a_EMPTY_SET)] ∧ Z.Warmed39 U_.vm ∧ U_.heap = h0) (fun _ _ _ _ _ => True) (fun _ U_ o_ U'_ => ∃ v_ L_, o_ = .returned v_ ∧ Q_ri1 Z o v1 a1 b x kb mO a_EMPTY g0 g1 g2 g3 g4 g5 g6 a_EMPTY_LIST a_EMPTY_SET h0 n0 v_ U'_.heap L_ ∧ FrameEnd U_ o_ U'_ L_ ({ frames := 8, cells := 2, slots := 3, locals := 106 } : Room).cells ({ frames := 8, cells := 2, slots := 3, locals := 106 } : Room).slots) := by
  refine MetFree.of_bodySF (plainFor_of_name pn13) hisR ?_
  intro p e s m args below meth c s₁ Bd hml0 hP hK
  obtain ⟨rfl, hZ, hh⟩ := hP
  have hx := Bd.exec
  have hby := Bd.bytes
  have hml : c.maxLocals = 8 := hml0
  have hown : s.vm.findClass "com/example/fetcher/client/Received" = some m.cls := findClass_of_methodNamed Bd.named
  have hnm := (name_of_methodNamed Bd.named Bd.method).1
  have X0 : Stand p l e ({ frames := 8, cells := 2, slots := 3, locals := 106 } : Room) s m #[(.ref o), v1, .null, .null, (.ref a1), (.ref a_EMPTY_LIST), (.ref a_EMPTY_LIST), (.ref a_EMPTY_SET)] below meth c s₁ [] 0 0 := Stand.of_body Bd
  have e0 : s₁.heap = h0 := by rw [← hh, Bd.state]; rfl
  have N0 := Fr.nil n0
  have oz : Z.heap.size = n0 := O0.1
  have S0 : ∀ t_, Steps p.tables e below (s₁.setTop (mkF m 0 #[.val (.ref o), .val v1, .val .null, .val .null, .val (.ref a1), .val (.ref a_EMPTY_LIST), .val (.ref a_EMPTY_LIST), .val (.ref a_EMPTY_SET)] [])) t_ → Steps p.tables e below (s₁.setTop (entryFrame m #[(.ref o), v1, .null, .null, (.ref a1), (.ref a_EMPTY_LIST), (.ref a_EMPTY_LIST), (.ref a_EMPTY_SET)] 8)) t_ := fun t_ k_ => castTop (ef_ri1 m o v1 a1 b x kb mO a_EMPTY g0 g1 g2 g3 g4 g5 g6 a_EMPTY_LIST a_EMPTY_SET rv1) k_
  have K0 := Keep.refl h0 [o]
  have lt_o : (o : Nat) < (h0.size : Nat) := Eo.lt
  have lt_a1 : (a1 : Nat) < (h0.size : Nat) := E1.lt
  have lt_b : (b : Nat) < (h0.size : Nat) := A1.lt
  have lt_x : (x : Nat) < (h0.size : Nat) := Ex.lt
  have lt_a_EMPTY_LIST : (a_EMPTY_LIST : Nat) < (Z.heap.size : Nat) := E_a_EMPTY_LIST.lt
  have lt_a_EMPTY_SET : (a_EMPTY_SET : Nat) < (Z.heap.size : Nat) := E_a_EMPTY_SET.lt
  obtain ⟨T1, X1, e1, st1⟩ := initO X0 hx hZ hown (tw64 hw) (tw12 hw) (tw13 hw) e0 (g := (mkF m 1 #[.val (.ref o), .val v1, .val .null, .val .null, .val (.ref a1), .val (.ref a_EMPTY_LIST), .val (.ref a_EMPTY_LIST), .val (.ref a_EMPTY_SET)] [(.ref o)])) rfl (by rw [hml]; rfl) rfl (hb hby d_prog_4_method_2_1) (by decide) (W := 0) (by show 2 * 0 + _ ≤ _; exact Nat.le_of_eq rfl) (by decide)
  obtain ⟨T2, h2, X2, e2, W2, st2⟩ := putF X1 hx hZ hown (host := "") (Or.inl (tw65 hw)) Via.refl e1 G0 Eo (Or.inr ⟨(tw66 hw), rfl, hnm⟩) (tw49 hw) (ty := (.object "java/lang/String")) (by decide) rfl (by rcases ref_cases rv1 with q | ⟨_, q⟩ <;> subst q <;> rfl) (g := (mkF m 6 #[.val (.ref o), .val v1, .val .null, .val .null, .val (.ref a1), .val (.ref a_EMPTY_LIST), .val (.ref a_EMPTY_LIST), .val (.ref a_EMPTY_SET)] [v1, (.ref o)])) rfl rfl (hb hby d_prog_4_method_2_6)
  have z2 := W2.size
  have K2 := K0.wr W2 (Or.inl (by simp))
  have N2 := Fr.snoc X2 N0 (by omega)
  have O2 := O0.wr W2 (by omega)
  have fw2 := G0.same W2
  have f3 := (Eo.wr W2)
  have f4 := (G1.other W2 (Or.inr (slot_ne (Or.inr (tw68 hw)) (Or.inr (tw66 hw)) (by decide) (t := (.object "java/lang/String")) (t' := (.object "java/lang/String")) (by decide) (by decide))))
  obtain ⟨T5, h5, X5, e5, W5, st5⟩ := putF X2 hx hZ hown (host := "") (Or.inl (tw67 hw)) Via.refl e2 f4 f3 (Or.inr ⟨(tw68 hw), rfl, hnm⟩) (tw49 hw) (ty := (.object "java/lang/String")) (by decide) rfl rfl (g := (mkF m 11 #[.val (.ref o), .val v1, .val .null, .val .null, .val (.ref a1), .val (.ref a_EMPTY_LIST), .val (.ref a_EMPTY_LIST), .val (.ref a_EMPTY_SET)] [.null, (.ref o)])) rfl rfl (hb hby d_prog_4_method_2_11)
  have z5 := W5.size
  have K5 := K2.wr W5 (Or.inl (by simp))
  have N5 := Fr.snoc X5 N2 (by omega)
  have O5 := O2.wr W5 (by omega)
  have fw5 := f4.same W5
  have f6 := (f3.wr W5)
  have f7 := ((G2.other W2 (Or.inr (slot_ne (Or.inr (tw70 hw)) (Or.inr (tw66 hw)) (by decide) (t := (.object "java/lang/String")) (t' := (.object "java/lang/String")) (by decide) (by decide)))).other W5 (Or.inr (slot_ne (Or.inr (tw70 hw)) (Or.inr (tw68 hw)) (by decide) (t := (.object "java/lang/String")) (t' := (.object "java/lang/String")) (by decide) (by decide))))
  obtain ⟨T8, h8, X8, e8, W8, st8⟩ := putF X5 hx hZ hown (host := "") (Or.inl (tw69 hw)) Via.refl e5 f7 f6 (Or.inr ⟨(tw70 hw), rfl, hnm⟩) (tw49 hw) (ty := (.object "java/lang/String")) (by decide) rfl rfl (g := (mkF m 16 #[.val (.ref o), .val v1, .val .null, .val .null, .val (.ref a1), .val (.ref a_EMPTY_LIST), .val (.ref a_EMPTY_LIST), .val (.ref a_EMPTY_SET)] [.null, (.ref o)])) rfl rfl (hb hby d_prog_4_method_2_16)
  have z8 := W8.size
  have K8 := K5.wr W8 (Or.inl (by simp))
  have N8 := Fr.snoc X8 N5 (by omega)
  have O8 := O5.wr W8 (by omega)
  have fw8 := f7.same W8
  have f9 := (((E1.wr W2).wr W5).wr W8)
  have f10 := (((F2.other W2 (Or.inl (by omega : (a1 : Nat) ≠ (o : Nat)))).other W5 (Or.inl (by omega : (a1 : Nat) ≠ (o : Nat)))).other W8 (Or.inl (by omega : (a1 : Nat) ≠ (o : Nat))))
  have f11 := (((F3.other W2 (Or.inl (by omega : (a1 : Nat) ≠ (o : Nat)))).other W5 (Or.inl (by omega : (a1 : Nat) ≠ (o : Nat)))).other W8 (Or.inl (by omega : (a1 : Nat) ≠ (o : Nat))))
  have f12 := (((A1.other W2 (by omega : (b : Nat) ≠ (o : Nat))).other W5 (by omega : (b : Nat) ≠ (o : Nat))).other W8 (by omega : (b : Nat) ≠ (o : Nat)))
  have f13 := (((Eb.wr W2).wr W5).wr W8)
  have f14 := (((Ex.wr W2).wr W5).wr W8)
  obtain ⟨_, _, ⟨T15, L15, k15, n15⟩, -, X15, ⟨Lc15, hQ15, l15, y15, z15⟩, st15⟩ := Jvm.LawKit.callS X8 hx (y := (⟨"java/util/List", "copyOf", "(Ljava/util/Collection;)Ljava/util/List;"⟩ : MethodName)) hown (mvT hZ (tw71 hw)) (mvT hZ (tw72 hw)) (mvT hZ (tw52 hw)) (mvT hZ (tw73 hw)) (by decide) (backOf (W := 1) (rm_co1 l Z a0 hw [] a1 b x kb mO a_EMPTY h8 n0 (by omega) O8 f9 f10 f11 f12 f13 f14 (by first | assumption | omega | decide) S_EMPTY) hZ (tw73 hw) (tw52 hw) (by decide) (by decide)) (g := (mkF m 22 #[.val (.ref o), .val v1, .val .null, .val .null, .val (.ref a1), .val (.ref a_EMPTY_LIST), .val (.ref a_EMPTY_LIST), .val (.ref a_EMPTY_SET)] [(.ref a1), (.ref o)])) rfl (by rw [hml]; rfl) (argsL := [(.ref a1)]) (rest := [(.ref o)]) (lenOf pd3 rfl) rfl (by show 2 * 0 + _ ≤ _; exact Nat.le_of_eq rfl) (hb hby d_prog_4_method_2_22) (fun _ _ => ⟨rfl, e8, (by decide : 0 + 2 ≤ _), (by decide : 0 + 3 ≤ _)⟩)
  dsimp only [Pt.U, Pt.locs, Pt.cells, Pt.slots] at X15 l15 y15 z15 st15 hQ15
  subst l15 y15 z15
  obtain ⟨r16, rfl, N15q, Kq15, p15_0, p15_1⟩ := hQ15
  have N15 := Fr.app N8 N15q
  have z15 := Kq15.1
  have K15 := K8.trans Kq15 all0
  have O15 := O8.keep Kq15 all0
  have lq17 : (r16 : Nat) < (T15.heap.size : Nat) := p15_0.lt
  have bq15 := p15_1
  have f18 := ((f6.wr W8).keep Kq15)
  have f19 := ((((G3.other W2 (Or.inr (slot_ne (Or.inr (tw90 hw)) (Or.inr (tw66 hw)) (by decide) (t := (.object "java/util/List")) (t' := (.object "java/lang/String")) (by decide) (by decide)))).other W5 (Or.inr (slot_ne (Or.inr (tw90 hw)) (Or.inr (tw68 hw)) (by decide) (t := (.object "java/util/List")) (t' := (.object "java/lang/String")) (by decide) (by decide)))).other W8 (Or.inr (slot_ne (Or.inr (tw90 hw)) (Or.inr (tw70 hw)) (by decide) (t := (.object "java/util/List")) (t' := (.object "java/lang/String")) (by decide) (by decide)))).keep Kq15 nin0)
  obtain ⟨T20, h20, X20, e20, W20, st20⟩ := putF X15 hx hZ hown (host := "") (Or.inl (tw89 hw)) Via.refl rfl f19 f18 (Or.inr ⟨(tw90 hw), rfl, hnm⟩) (tw49 hw) (ty := (.object "java/util/List")) (by decide) rfl rfl (g := (mkF m 25 #[.val (.ref o), .val v1, .val .null, .val .null, .val (.ref a1), .val (.ref a_EMPTY_LIST), .val (.ref a_EMPTY_LIST), .val (.ref a_EMPTY_SET)] [(.ref r16), (.ref o)])) rfl rfl (hb hby d_prog_4_method_2_25)
  have z20 := W20.size
  have K20 := K15.wr W20 (Or.inl (by simp))
  have N20 := Fr.snoc X20 N15 (by omega)
  have O20 := O15.wr W20 (by omega)
  have fw20 := f19.same W20
  obtain ⟨_, _, ⟨T21, L21, k21, n21⟩, -, X21, ⟨Lc21, hQ21, l21, y21, z21⟩, st21⟩ := Jvm.LawKit.callS X20 hx (y := (⟨"java/util/List", "copyOf", "(Ljava/util/Collection;)Ljava/util/List;"⟩ : MethodName)) hown (mvT hZ (tw71 hw)) (mvT hZ (tw72 hw)) (mvT hZ (tw52 hw)) (mvT hZ (tw73 hw)) (by decide) (backOf (W := 1) (rm_coE l Z a0 hw [] a_EMPTY_LIST h20 n0 (by omega) O20 E_a_EMPTY_LIST F_a_EMPTY_LIST_allowNulls) hZ (tw73 hw) (tw52 hw) (by decide) (by decide)) (g := (mkF m 31 #[.val (.ref o), .val v1, .val .null, .val .null, .val (.ref a1), .val (.ref a_EMPTY_LIST), .val (.ref a_EMPTY_LIST), .val (.ref a_EMPTY_SET)] [(.ref a_EMPTY_LIST), (.ref o)])) rfl (by rw [hml]; rfl) (argsL := [(.ref a_EMPTY_LIST)]) (rest := [(.ref o)]) (lenOf pd3 rfl) rfl (by show 2 * 0 + _ ≤ _; exact Nat.le_of_eq rfl) (hb hby d_prog_4_method_2_31) (fun _ _ => ⟨rfl, e20, (by decide : 2 + 0 ≤ _), (by decide : 3 + 0 ≤ _)⟩)
  dsimp only [Pt.U, Pt.locs, Pt.cells, Pt.slots] at X21 l21 y21 z21 st21 hQ21
  subst l21 y21 z21
  obtain ⟨rfl, N21q, Kq21⟩ := hQ21
  have N21 := Fr.app N20 N21q
  have f22 := (f18.wr W20)
  have f23 := (((((G4.other W2 (Or.inr (slot_ne (Or.inr (tw92 hw)) (Or.inr (tw66 hw)) (by decide) (t := (.object "java/util/List")) (t' := (.object "java/lang/String")) (by decide) (by decide)))).other W5 (Or.inr (slot_ne (Or.inr (tw92 hw)) (Or.inr (tw68 hw)) (by decide) (t := (.object "java/util/List")) (t' := (.object "java/lang/String")) (by decide) (by decide)))).other W8 (Or.inr (slot_ne (Or.inr (tw92 hw)) (Or.inr (tw70 hw)) (by decide) (t := (.object "java/util/List")) (t' := (.object "java/lang/String")) (by decide) (by decide)))).keep Kq15 nin0).other W20 (Or.inr (slot_ne (Or.inr (tw92 hw)) (Or.inr (tw90 hw)) (by decide) (t := (.object "java/util/List")) (t' := (.object "java/util/List")) (by decide) (by decide))))
  obtain ⟨T24, h24, X24, e24, W24, st24⟩ := putF X21 hx hZ hown (host := "") (Or.inl (tw91 hw)) Via.refl Kq21 f23 f22 (Or.inr ⟨(tw92 hw), rfl, hnm⟩) (tw49 hw) (ty := (.object "java/util/List")) (by decide) rfl rfl (g := (mkF m 34 #[.val (.ref o), .val v1, .val .null, .val .null, .val (.ref a1), .val (.ref a_EMPTY_LIST), .val (.ref a_EMPTY_LIST), .val (.ref a_EMPTY_SET)] [(.ref a_EMPTY_LIST), (.ref o)])) rfl rfl (hb hby d_prog_4_method_2_34)
  have z24 := W24.size
  have K24 := K20.wr W24 (Or.inl (by simp))
  have N24 := Fr.snoc X24 N21 (by omega)
  have O24 := O20.wr W24 (by omega)
  have fw24 := f23.same W24
  obtain ⟨_, _, ⟨T25, L25, k25, n25⟩, -, X25, ⟨Lc25, hQ25, l25, y25, z25⟩, st25⟩ := Jvm.LawKit.callS X24 hx (y := (⟨"java/util/List", "copyOf", "(Ljava/util/Collection;)Ljava/util/List;"⟩ : MethodName)) hown (mvT hZ (tw71 hw)) (mvT hZ (tw72 hw)) (mvT hZ (tw52 hw)) (mvT hZ (tw73 hw)) (by decide) (backOf (W := 1) (rm_coE l Z a0 hw [] a_EMPTY_LIST h24 n0 (by omega) O24 E_a_EMPTY_LIST F_a_EMPTY_LIST_allowNulls) hZ (tw73 hw) (tw52 hw) (by decide) (by decide)) (g := (mkF m 40 #[.val (.ref o), .val v1, .val .null, .val .null, .val (.ref a1), .val (.ref a_EMPTY_LIST), .val (.ref a_EMPTY_LIST), .val (.ref a_EMPTY_SET)] [(.ref a_EMPTY_LIST), (.ref o)])) rfl (by rw [hml]; rfl) (argsL := [(.ref a_EMPTY_LIST)]) (rest := [(.ref o)]) (lenOf pd3 rfl) rfl (by show 2 * 0 + _ ≤ _; exact Nat.le_of_eq rfl) (hb hby d_prog_4_method_2_40) (fun _ _ => ⟨rfl, e24, (by decide : 2 + 0 ≤ _), (by decide : 3 + 0 ≤ _)⟩)
  dsimp only [Pt.U, Pt.locs, Pt.cells, Pt.slots] at X25 l25 y25 z25 st25 hQ25
  subst l25 y25 z25
  obtain ⟨rfl, N25q, Kq25⟩ := hQ25
  have N25 := Fr.app N24 N25q
  have f26 := (f22.wr W24)
  have f27 := ((((((G5.other W2 (Or.inr (slot_ne (Or.inr (tw94 hw)) (Or.inr (tw66 hw)) (by decide) (t := (.object "java/util/List")) (t' := (.object "java/lang/String")) (by decide) (by decide)))).other W5 (Or.inr (slot_ne (Or.inr (tw94 hw)) (Or.inr (tw68 hw)) (by decide) (t := (.object "java/util/List")) (t' := (.object "java/lang/String")) (by decide) (by decide)))).other W8 (Or.inr (slot_ne (Or.inr (tw94 hw)) (Or.inr (tw70 hw)) (by decide) (t := (.object "java/util/List")) (t' := (.object "java/lang/String")) (by decide) (by decide)))).keep Kq15 nin0).other W20 (Or.inr (slot_ne (Or.inr (tw94 hw)) (Or.inr (tw90 hw)) (by decide) (t := (.object "java/util/List")) (t' := (.object "java/util/List")) (by decide) (by decide)))).other W24 (Or.inr (slot_ne (Or.inr (tw94 hw)) (Or.inr (tw92 hw)) (by decide) (t := (.object "java/util/List")) (t' := (.object "java/util/List")) (by decide) (by decide))))
  obtain ⟨T28, h28, X28, e28, W28, st28⟩ := putF X25 hx hZ hown (host := "") (Or.inl (tw93 hw)) Via.refl Kq25 f27 f26 (Or.inr ⟨(tw94 hw), rfl, hnm⟩) (tw49 hw) (ty := (.object "java/util/List")) (by decide) rfl rfl (g := (mkF m 43 #[.val (.ref o), .val v1, .val .null, .val .null, .val (.ref a1), .val (.ref a_EMPTY_LIST), .val (.ref a_EMPTY_LIST), .val (.ref a_EMPTY_SET)] [(.ref a_EMPTY_LIST), (.ref o)])) rfl rfl (hb hby d_prog_4_method_2_43)
  have z28 := W28.size
  have K28 := K24.wr W28 (Or.inl (by simp))
  have N28 := Fr.snoc X28 N25 (by omega)
  have O28 := O24.wr W28 (by omega)
  have fw28 := f27.same W28
  obtain ⟨_, _, ⟨T29, L29, k29, n29⟩, -, X29, ⟨Lc29, hQ29, l29, y29, z29⟩, st29⟩ := Jvm.LawKit.callS X28 hx (y := (⟨"java/util/Set", "copyOf", "(Ljava/util/Collection;)Ljava/util/Set;"⟩ : MethodName)) hown (mvT hZ (tw95 hw)) (mvT hZ (tw96 hw)) (mvT hZ (tw58 hw)) (mvT hZ (tw97 hw)) (by decide) (backOf (W := 1) (rm_scE l Z a0 hw [] a_EMPTY_SET h28 n0 (by omega) O28 E_a_EMPTY_SET) hZ (tw97 hw) (tw58 hw) (by decide) (by decide)) (g := (mkF m 49 #[.val (.ref o), .val v1, .val .null, .val .null, .val (.ref a1), .val (.ref a_EMPTY_LIST), .val (.ref a_EMPTY_LIST), .val (.ref a_EMPTY_SET)] [(.ref a_EMPTY_SET), (.ref o)])) rfl (by rw [hml]; rfl) (argsL := [(.ref a_EMPTY_SET)]) (rest := [(.ref o)]) (lenOf pd16 rfl) rfl (by show 2 * 0 + _ ≤ _; exact Nat.le_of_eq rfl) (hb hby d_prog_4_method_2_49) (fun _ _ => ⟨rfl, e28, (by decide : 2 + 0 ≤ _), (by decide : 3 + 0 ≤ _)⟩)
  dsimp only [Pt.U, Pt.locs, Pt.cells, Pt.slots] at X29 l29 y29 z29 st29 hQ29
  subst l29 y29 z29
  obtain ⟨rfl, N29q, Kq29⟩ := hQ29
  have N29 := Fr.app N28 N29q
  have f30 := (f26.wr W28)
  have f31 := (((((((G6.other W2 (Or.inr (slot_ne (Or.inr (tw103 hw)) (Or.inr (tw66 hw)) (by decide) (t := (.object "java/util/Set")) (t' := (.object "java/lang/String")) (by decide) (by decide)))).other W5 (Or.inr (slot_ne (Or.inr (tw103 hw)) (Or.inr (tw68 hw)) (by decide) (t := (.object "java/util/Set")) (t' := (.object "java/lang/String")) (by decide) (by decide)))).other W8 (Or.inr (slot_ne (Or.inr (tw103 hw)) (Or.inr (tw70 hw)) (by decide) (t := (.object "java/util/Set")) (t' := (.object "java/lang/String")) (by decide) (by decide)))).keep Kq15 nin0).other W20 (Or.inr (slot_ne (Or.inr (tw103 hw)) (Or.inr (tw90 hw)) (by decide) (t := (.object "java/util/Set")) (t' := (.object "java/util/List")) (by decide) (by decide)))).other W24 (Or.inr (slot_ne (Or.inr (tw103 hw)) (Or.inr (tw92 hw)) (by decide) (t := (.object "java/util/Set")) (t' := (.object "java/util/List")) (by decide) (by decide)))).other W28 (Or.inr (slot_ne (Or.inr (tw103 hw)) (Or.inr (tw94 hw)) (by decide) (t := (.object "java/util/Set")) (t' := (.object "java/util/List")) (by decide) (by decide))))
  obtain ⟨T32, h32, X32, e32, W32, st32⟩ := putF X29 hx hZ hown (host := "") (Or.inl (tw102 hw)) Via.refl Kq29 f31 f30 (Or.inr ⟨(tw103 hw), rfl, hnm⟩) (tw49 hw) (ty := (.object "java/util/Set")) (by decide) rfl rfl (g := (mkF m 52 #[.val (.ref o), .val v1, .val .null, .val .null, .val (.ref a1), .val (.ref a_EMPTY_LIST), .val (.ref a_EMPTY_LIST), .val (.ref a_EMPTY_SET)] [(.ref a_EMPTY_SET), (.ref o)])) rfl rfl (hb hby d_prog_4_method_2_52)
  have z32 := W32.size
  have K32 := K28.wr W32 (Or.inl (by simp))
  have N32 := Fr.snoc X32 N29 (by omega)
  have O32 := O28.wr W32 (by omega)
  have fw32 := f31.same W32
  have S33 : ∀ t_, Steps p.tables e below (T32.setTop (mkF m 55 #[.val (.ref o), .val v1, .val .null, .val .null, .val (.ref a1), .val (.ref a_EMPTY_LIST), .val (.ref a_EMPTY_LIST), .val (.ref a_EMPTY_SET)] [])) t_ → Steps p.tables e below (s₁.setTop (entryFrame m #[(.ref o), v1, .null, .null, (.ref a1), (.ref a_EMPTY_LIST), (.ref a_EMPTY_LIST), (.ref a_EMPTY_SET)] 8)) t_ := by
    intro t_ k_
    refine S0 t_ ?_
    show Steps p.tables e below (s₁.setTop (mkF m 0 #[.val (.ref o), .val v1, .val .null, .val .null, .val (.ref a1), .val (.ref a_EMPTY_LIST), .val (.ref a_EMPTY_LIST), .val (.ref a_EMPTY_SET)] [])) _
    refine XS.aloadN X0.here hx rfl (hb hby d_prog_4_method_2_0) rfl rfl ?_
    show Steps p.tables e below (s₁.setTop (mkF m 1 #[.val (.ref o), .val v1, .val .null, .val .null, .val (.ref a1), .val (.ref a_EMPTY_LIST), .val (.ref a_EMPTY_LIST), .val (.ref a_EMPTY_SET)] [(.ref o)])) _
    refine st1 _ ?_
    show Steps p.tables e below (T1.setTop (mkF m 4 #[.val (.ref o), .val v1, .val .null, .val .null, .val (.ref a1), .val (.ref a_EMPTY_LIST), .val (.ref a_EMPTY_LIST), .val (.ref a_EMPTY_SET)] [])) _
    refine XS.aloadN X1.here hx rfl (hb hby d_prog_4_method_2_4) rfl rfl ?_
    show Steps p.tables e below (T1.setTop (mkF m 5 #[.val (.ref o), .val v1, .val .null, .val .null, .val (.ref a1), .val (.ref a_EMPTY_LIST), .val (.ref a_EMPTY_LIST), .val (.ref a_EMPTY_SET)] [(.ref o)])) _
    refine XS.aloadN X1.here hx rfl (hb hby d_prog_4_method_2_5) rfl rv1 ?_
    show Steps p.tables e below (T1.setTop (mkF m 6 #[.val (.ref o), .val v1, .val .null, .val .null, .val (.ref a1), .val (.ref a_EMPTY_LIST), .val (.ref a_EMPTY_LIST), .val (.ref a_EMPTY_SET)] [v1, (.ref o)])) _
    refine st2 _ ?_
    show Steps p.tables e below (T2.setTop (mkF m 9 #[.val (.ref o), .val v1, .val .null, .val .null, .val (.ref a1), .val (.ref a_EMPTY_LIST), .val (.ref a_EMPTY_LIST), .val (.ref a_EMPTY_SET)] [])) _
    refine XS.aloadN X2.here hx rfl (hb hby d_prog_4_method_2_9) rfl rfl ?_
    show Steps p.tables e below (T2.setTop (mkF m 10 #[.val (.ref o), .val v1, .val .null, .val .null, .val (.ref a1), .val (.ref a_EMPTY_LIST), .val (.ref a_EMPTY_LIST), .val (.ref a_EMPTY_SET)] [(.ref o)])) _
    refine XS.aloadN X2.here hx rfl (hb hby d_prog_4_method_2_10) rfl rfl ?_
    show Steps p.tables e below (T2.setTop (mkF m 11 #[.val (.ref o), .val v1, .val .null, .val .null, .val (.ref a1), .val (.ref a_EMPTY_LIST), .val (.ref a_EMPTY_LIST), .val (.ref a_EMPTY_SET)] [.null, (.ref o)])) _
    refine st5 _ ?_
    show Steps p.tables e below (T5.setTop (mkF m 14 #[.val (.ref o), .val v1, .val .null, .val .null, .val (.ref a1), .val (.ref a_EMPTY_LIST), .val (.ref a_EMPTY_LIST), .val (.ref a_EMPTY_SET)] [])) _
    refine XS.aloadN X5.here hx rfl (hb hby d_prog_4_method_2_14) rfl rfl ?_
    show Steps p.tables e below (T5.setTop (mkF m 15 #[.val (.ref o), .val v1, .val .null, .val .null, .val (.ref a1), .val (.ref a_EMPTY_LIST), .val (.ref a_EMPTY_LIST), .val (.ref a_EMPTY_SET)] [(.ref o)])) _
    refine XS.aloadN X5.here hx rfl (hb hby d_prog_4_method_2_15) rfl rfl ?_
    show Steps p.tables e below (T5.setTop (mkF m 16 #[.val (.ref o), .val v1, .val .null, .val .null, .val (.ref a1), .val (.ref a_EMPTY_LIST), .val (.ref a_EMPTY_LIST), .val (.ref a_EMPTY_SET)] [.null, (.ref o)])) _
    refine st8 _ ?_
    show Steps p.tables e below (T8.setTop (mkF m 19 #[.val (.ref o), .val v1, .val .null, .val .null, .val (.ref a1), .val (.ref a_EMPTY_LIST), .val (.ref a_EMPTY_LIST), .val (.ref a_EMPTY_SET)] [])) _
    refine XS.aloadN X8.here hx rfl (hb hby d_prog_4_method_2_19) rfl rfl ?_
    show Steps p.tables e below (T8.setTop (mkF m 20 #[.val (.ref o), .val v1, .val .null, .val .null, .val (.ref a1), .val (.ref a_EMPTY_LIST), .val (.ref a_EMPTY_LIST), .val (.ref a_EMPTY_SET)] [(.ref o)])) _
    refine XS.aload X8.here hx rfl (hb hby d_prog_4_method_2_20) rfl rfl ?_
    show Steps p.tables e below (T8.setTop (mkF m 22 #[.val (.ref o), .val v1, .val .null, .val .null, .val (.ref a1), .val (.ref a_EMPTY_LIST), .val (.ref a_EMPTY_LIST), .val (.ref a_EMPTY_SET)] [(.ref a1), (.ref o)])) _
    refine st15 _ ?_
    show Steps p.tables e below (T15.setTop (mkF m 25 #[.val (.ref o), .val v1, .val .null, .val .null, .val (.ref a1), .val (.ref a_EMPTY_LIST), .val (.ref a_EMPTY_LIST), .val (.ref a_EMPTY_SET)] [(.ref r16), (.ref o)])) _
    refine st20 _ ?_
    show Steps p.tables e below (T20.setTop (mkF m 28 #[.val (.ref o), .val v1, .val .null, .val .null, .val (.ref a1), .val (.ref a_EMPTY_LIST), .val (.ref a_EMPTY_LIST), .val (.ref a_EMPTY_SET)] [])) _
    refine XS.aloadN X20.here hx rfl (hb hby d_prog_4_method_2_28) rfl rfl ?_
    show Steps p.tables e below (T20.setTop (mkF m 29 #[.val (.ref o), .val v1, .val .null, .val .null, .val (.ref a1), .val (.ref a_EMPTY_LIST), .val (.ref a_EMPTY_LIST), .val (.ref a_EMPTY_SET)] [(.ref o)])) _
    refine XS.aload X20.here hx rfl (hb hby d_prog_4_method_2_29) rfl rfl ?_
    show Steps p.tables e below (T20.setTop (mkF m 31 #[.val (.ref o), .val v1, .val .null, .val .null, .val (.ref a1), .val (.ref a_EMPTY_LIST), .val (.ref a_EMPTY_LIST), .val (.ref a_EMPTY_SET)] [(.ref a_EMPTY_LIST), (.ref o)])) _
    refine st21 _ ?_
    show Steps p.tables e below (T21.setTop (mkF m 34 #[.val (.ref o), .val v1, .val .null, .val .null, .val (.ref a1), .val (.ref a_EMPTY_LIST), .val (.ref a_EMPTY_LIST), .val (.ref a_EMPTY_SET)] [(.ref a_EMPTY_LIST), (.ref o)])) _
    refine st24 _ ?_
    show Steps p.tables e below (T24.setTop (mkF m 37 #[.val (.ref o), .val v1, .val .null, .val .null, .val (.ref a1), .val (.ref a_EMPTY_LIST), .val (.ref a_EMPTY_LIST), .val (.ref a_EMPTY_SET)] [])) _
    refine XS.aloadN X24.here hx rfl (hb hby d_prog_4_method_2_37) rfl rfl ?_
    show Steps p.tables e below (T24.setTop (mkF m 38 #[.val (.ref o), .val v1, .val .null, .val .null, .val (.ref a1), .val (.ref a_EMPTY_LIST), .val (.ref a_EMPTY_LIST), .val (.ref a_EMPTY_SET)] [(.ref o)])) _
    refine XS.aload X24.here hx rfl (hb hby d_prog_4_method_2_38) rfl rfl ?_
    show Steps p.tables e below (T24.setTop (mkF m 40 #[.val (.ref o), .val v1, .val .null, .val .null, .val (.ref a1), .val (.ref a_EMPTY_LIST), .val (.ref a_EMPTY_LIST), .val (.ref a_EMPTY_SET)] [(.ref a_EMPTY_LIST), (.ref o)])) _
    refine st25 _ ?_
    show Steps p.tables e below (T25.setTop (mkF m 43 #[.val (.ref o), .val v1, .val .null, .val .null, .val (.ref a1), .val (.ref a_EMPTY_LIST), .val (.ref a_EMPTY_LIST), .val (.ref a_EMPTY_SET)] [(.ref a_EMPTY_LIST), (.ref o)])) _
    refine st28 _ ?_
    show Steps p.tables e below (T28.setTop (mkF m 46 #[.val (.ref o), .val v1, .val .null, .val .null, .val (.ref a1), .val (.ref a_EMPTY_LIST), .val (.ref a_EMPTY_LIST), .val (.ref a_EMPTY_SET)] [])) _
    refine XS.aloadN X28.here hx rfl (hb hby d_prog_4_method_2_46) rfl rfl ?_
    show Steps p.tables e below (T28.setTop (mkF m 47 #[.val (.ref o), .val v1, .val .null, .val .null, .val (.ref a1), .val (.ref a_EMPTY_LIST), .val (.ref a_EMPTY_LIST), .val (.ref a_EMPTY_SET)] [(.ref o)])) _
    refine XS.aload X28.here hx rfl (hb hby d_prog_4_method_2_47) rfl rfl ?_
    show Steps p.tables e below (T28.setTop (mkF m 49 #[.val (.ref o), .val v1, .val .null, .val .null, .val (.ref a1), .val (.ref a_EMPTY_LIST), .val (.ref a_EMPTY_LIST), .val (.ref a_EMPTY_SET)] [(.ref a_EMPTY_SET), (.ref o)])) _
    refine st29 _ ?_
    show Steps p.tables e below (T29.setTop (mkF m 52 #[.val (.ref o), .val v1, .val .null, .val .null, .val (.ref a1), .val (.ref a_EMPTY_LIST), .val (.ref a_EMPTY_LIST), .val (.ref a_EMPTY_SET)] [(.ref a_EMPTY_SET), (.ref o)])) _
    refine st32 _ ?_
    exact k_
  obtain ⟨fs, hr, hrun, hended, hW, hsame⟩ := X32.leave (v := none) (fun _ => rfl)
  refine ⟨_, _, S33 _ (X32.returnOut hx Bd.returns (hb hby d_prog_4_method_2_55) hr), hrun, hended, _, _, rfl, ?_, ⟨_, rfl⟩, hW, hsame.mono (by decide) (by decide)⟩
  show Q_ri1 Z o v1 a1 b x kb mO a_EMPTY g0 g1 g2 g3 g4 g5 g6 a_EMPTY_LIST a_EMPTY_SET h0 n0 _ T32.heap _
  rw [e32]
  have f34 := (f30.wr W32)
  have f35 := ((((((fw5.other W8 (Or.inr (slot_ne (Or.inr (tw68 hw)) (Or.inr (tw70 hw)) (by decide) (t := (.object "java/lang/String")) (t' := (.object "java/lang/String")) (by decide) (by decide)))).keep Kq15 nin0).other W20 (Or.inr (slot_ne (Or.inr (tw68 hw)) (Or.inr (tw90 hw)) (by decide) (t := (.object "java/lang/String")) (t' := (.object "java/util/List")) (by decide) (by decide)))).other W24 (Or.inr (slot_ne (Or.inr (tw68 hw)) (Or.inr (tw92 hw)) (by decide) (t := (.object "java/lang/String")) (t' := (.object "java/util/List")) (by decide) (by decide)))).other W28 (Or.inr (slot_ne (Or.inr (tw68 hw)) (Or.inr (tw94 hw)) (by decide) (t := (.object "java/lang/String")) (t' := (.object "java/util/List")) (by decide) (by decide)))).other W32 (Or.inr (slot_ne (Or.inr (tw68 hw)) (Or.inr (tw103 hw)) (by decide) (t := (.object "java/lang/String")) (t' := (.object "java/util/Set")) (by decide) (by decide))))
  exact ⟨rfl, N32, K32, f34, f35⟩
def Q_err (Z : State) (v1 : Value) (v2 : Value) (v3 : Value) (a_EMPTY_LIST : Nat) (a_EMPTY_SET : Nat) (h0 : Heap) (n0 : Nat) (v : Option Value) (h : Heap) (L : List Loc) : Prop := ∃ (o : Nat), v = some (.ref o) ∧ Fr n0 L ∧ Keep h0 h [] ∧ (Exa Z h o "com/example/fetcher/client/Received") ∧ (Fld Z h o "com/example/fetcher/client/Received" "errorCode" "Ljava/lang/String;" v2) ∧ (Fld Z h o "com/example/fetcher/client/Received" "returned" "Ljava/util/List;" (.ref a_EMPTY_LIST)) ∧ (Fld Z h o "com/example/fetcher/client/Received" "told" "Ljava/util/List;" (.ref a_EMPTY_LIST)) ∧ (Fld Z h o "com/example/fetcher/client/Received" "versions" "Ljava/util/Set;" (.ref a_EMPTY_SET)) ∧ (h0.size ≤ o)
theorem ef_err (m : MethodId) (v1 : Value) (v2 : Value) (v3 : Value) (a_EMPTY_LIST : Nat) (a_EMPTY_SET : Nat) (rv1 : v1.isRef = true) (rv2 : v2.isRef = true) (rv3 : v3.isRef = true) : entryFrame m #[v1, v2, v3] 3 = (mkF m 0 #[.val v1, .val v2, .val v3] []) := by
  simp [entryFrame, mkF, argsToLocals, own_cR, own_cI, own_cJ, own_cN, own_cat rv1, own_cat rv2, own_cat rv3]
set_option maxRecDepth 65536 in
set_option maxHeartbeats 40000000 in
theorem rm_err (l : Launch) (Z : State) (a0 : Array Value) (hw : ∀ d ∈ tables_1, d.before a0 Z = true) (ws : List Jvm.Cond) (v1 : Value) (v2 : Value) (v3 : Value) (a_EMPTY_LIST : Nat) (a_EMPTY_SET : Nat) (h0 : Heap) (n0 : Nat) (Z0 : n0 ≤ h0.size) (O0 : Old Z n0 h0) (rv1 : v1.isRef = true) (rv2 : v2.isRef = true) (rv3 : v3.isRef = true) (E_a_EMPTY_LIST : Exa Z Z.heap a_EMPTY_LIST "java/util/ImmutableCollections$ListN") (F_a_EMPTY_LIST_allowNulls : Fld Z Z.heap a_EMPTY_LIST "java/util/ImmutableCollections$ListN" "allowNulls" "Z" (.int (0 : Int32))) (E_a_EMPTY_SET : Exa Z Z.heap a_EMPTY_SET "java/util/ImmutableCollections$SetN") (S_EMPTY_LIST : Sta Z Z.heap "java/util/ImmutableCollections" "EMPTY_LIST" "Ljava/util/ImmutableCollections$ListN;" (.ref a_EMPTY_LIST)) (S_EMPTY_SET : Sta Z Z.heap "java/util/ImmutableCollections" "EMPTY_SET" "Ljava/util/ImmutableCollections$SetN;" (.ref a_EMPTY_SET)) :
    MetFree l (⟨"com/example/fetcher/client/Received", "error", "(Ljava/lang/String;Ljava/lang/String;Ljava/lang/String;)Lcom/example/fetcher/client/Received;"⟩ : MethodName) (head1 (Jvm.Cond.code (⟨"com/example/fetcher/client/Received", "error", "(Ljava/lang/String;Ljava/lang/String;Ljava/lang/String;)Lcom/example/fetcher/client/Received;"⟩ : MethodName) prog_4_method_3_code 3 (some (.object "com/example/fetcher/client/Received")) :: ws) ({ frames := 3, cells := 1, slots := 7, locals := 46 } : Room)) (fun a_ U_ => a_ = #[v1, v2, v3] ∧ Z.Warmed39 U_.vm ∧ U_.heap = h0) (fun _ _ _ _ _ => True) (fun _ U_ o_ U'_ => ∃ v_ L_, o_ = .returned v_ ∧ Q_err Z v1 v2 v3 a_EMPTY_LIST a_EMPTY_SET h0 n0 v_ U'_.heap L_ ∧ FrameEnd U_ o_ U'_ L_ ({ frames := 3, cells := 1, slots := 7, locals := 46 } : Room).cells ({ frames := 3, cells := 1, slots := 7, locals := 46 } : Room).slots) := by
  refine MetFree.of_bodySF (plainFor_of_name pn13) hisR ?_
  intro p e s m args below meth c s₁ Bd hml0 hP hK
  obtain ⟨rfl, hZ, hh⟩ := hP
  have hx := Bd.exec
  have hby := Bd.bytes
  have hml : c.maxLocals = 3 := hml0
  have hown : s.vm.findClass "com/example/fetcher/client/Received" = some m.cls := findClass_of_methodNamed Bd.named
  have hnm := (name_of_methodNamed Bd.named Bd.method).1
  have X0 : Stand p l e ({ frames := 3, cells := 1, slots := 7, locals := 46 } : Room) s m #[v1, v2, v3] below meth c s₁ [] 0 0 := Stand.of_body Bd
  have e0 : s₁.heap = h0 := by rw [← hh, Bd.state]; rfl
  have N0 := Fr.nil n0
  have oz : Z.heap.size = n0 := O0.1
  have S0 : ∀ t_, Steps p.tables e below (s₁.setTop (mkF m 0 #[.val v1, .val v2, .val v3] [])) t_ → Steps p.tables e below (s₁.setTop (entryFrame m #[v1, v2, v3] 3)) t_ := fun t_ k_ => castTop (ef_err m v1 v2 v3 a_EMPTY_LIST a_EMPTY_SET rv1 rv2 rv3) k_
  have K0 := Keep.refl h0 []
  have lt_a_EMPTY_LIST : (a_EMPTY_LIST : Nat) < (Z.heap.size : Nat) := E_a_EMPTY_LIST.lt
  have lt_a_EMPTY_SET : (a_EMPTY_SET : Nat) < (Z.heap.size : Nat) := E_a_EMPTY_SET.lt
  obtain ⟨T1, h1, X1, e1, E1, A1, D1, -, st1⟩ := newO X0 hx hZ hown (tw48 hw) (tw49 hw) (tw46 hw) e0 (g := (mkF m 0 #[.val v1, .val v2, .val v3] [])) rfl (hb hby d_prog_4_method_3_0) (by decide) (by decide)
  obtain ⟨b1, g1⟩ : ∃ z, z = h0.size := ⟨_, rfl⟩
  rw [← g1] at A1 D1 st1
  have lb1 : (b1 : Nat) < (h1.size : Nat) := A1.lt
  have z1 := E1.1
  have K1 := K0.ext E1
  have O1 := O0.ext E1
  have f2 : Fld Z h1 b1 "com/example/fetcher/client/Received" "replyTo" "Ljava/lang/String;" .null := D1 (Or.inr (tw66 hw)) (ty := (.object "java/lang/String")) (by decide)
  have f3 : Fld Z h1 b1 "com/example/fetcher/client/Received" "errorCode" "Ljava/lang/String;" .null := D1 (Or.inr (tw68 hw)) (ty := (.object "java/lang/String")) (by decide)
  have f4 : Fld Z h1 b1 "com/example/fetcher/client/Received" "errorText" "Ljava/lang/String;" .null := D1 (Or.inr (tw70 hw)) (ty := (.object "java/lang/String")) (by decide)
  have f5 : Fld Z h1 b1 "com/example/fetcher/client/Received" "resources" "Ljava/util/List;" .null := D1 (Or.inr (tw90 hw)) (ty := (.object "java/util/List")) (by decide)
  have f6 : Fld Z h1 b1 "com/example/fetcher/client/Received" "returned" "Ljava/util/List;" .null := D1 (Or.inr (tw92 hw)) (ty := (.object "java/util/List")) (by decide)
  have f7 : Fld Z h1 b1 "com/example/fetcher/client/Received" "told" "Ljava/util/List;" .null := D1 (Or.inr (tw94 hw)) (ty := (.object "java/util/List")) (by decide)
  have f8 : Fld Z h1 b1 "com/example/fetcher/client/Received" "versions" "Ljava/util/Set;" .null := D1 (Or.inr (tw103 hw)) (ty := (.object "java/util/Set")) (by decide)
  obtain ⟨_, _, ⟨T9, L9, k9, n9⟩, -, X9, ⟨Lc9, hQ9, l9, y9, z9⟩, st9⟩ := Jvm.LawKit.callS X1 hx (y := (⟨"java/util/List", "of", "()Ljava/util/List;"⟩ : MethodName)) hown (mvT hZ (tw50 hw)) (mvT hZ (tw51 hw)) (mvT hZ (tw52 hw)) (mvT hZ (tw53 hw)) (by decide) (backOf (W := 5) (rm_lof l Z a0 hw [] a_EMPTY_LIST h1 n0 (by omega) O1 S_EMPTY_LIST) hZ (tw53 hw) (tw52 hw) (by decide) (by decide)) (g := (mkF m 7 #[.val v1, .val v2, .val v3] [v3, v2, v1, (.ref b1), (.ref b1)])) rfl (by rw [hml]; rfl) (argsL := []) (rest := [v3, v2, v1, (.ref b1), (.ref b1)]) (lenOf pd14 rfl) rfl (by simp [own_cR, own_cI, own_cJ, own_cN, own_cat rv3, own_cat rv2, own_cat rv1]) (hb hby d_prog_4_method_3_7) (fun _ _ => ⟨rfl, e1, (by decide : 1 + 0 ≤ _), (by decide : 7 + 0 ≤ _)⟩)
  dsimp only [Pt.U, Pt.locs, Pt.cells, Pt.slots] at X9 l9 y9 z9 st9 hQ9
  subst l9 y9 z9
  obtain ⟨rfl, N9q, Kq9⟩ := hQ9
  have N9 := Fr.app N0 N9q
  obtain ⟨_, _, ⟨T10, L10, k10, n10⟩, -, X10, ⟨Lc10, hQ10, l10, y10, z10⟩, st10⟩ := Jvm.LawKit.callS X9 hx (y := (⟨"java/util/List", "of", "()Ljava/util/List;"⟩ : MethodName)) hown (mvT hZ (tw50 hw)) (mvT hZ (tw51 hw)) (mvT hZ (tw52 hw)) (mvT hZ (tw53 hw)) (by decide) (backOf (W := 6) (rm_lof l Z a0 hw [] a_EMPTY_LIST h1 n0 (by omega) O1 S_EMPTY_LIST) hZ (tw53 hw) (tw52 hw) (by decide) (by decide)) (g := (mkF m 10 #[.val v1, .val v2, .val v3] [(.ref a_EMPTY_LIST), v3, v2, v1, (.ref b1), (.ref b1)])) rfl (by rw [hml]; rfl) (argsL := []) (rest := [(.ref a_EMPTY_LIST), v3, v2, v1, (.ref b1), (.ref b1)]) (lenOf pd14 rfl) rfl (by simp [own_cR, own_cI, own_cJ, own_cN, own_cat rv3, own_cat rv2, own_cat rv1]) (hb hby d_prog_4_method_3_10) (fun _ _ => ⟨rfl, Kq9, (by decide : 1 + 0 ≤ _), (by decide : 7 + 0 ≤ _)⟩)
  dsimp only [Pt.U, Pt.locs, Pt.cells, Pt.slots] at X10 l10 y10 z10 st10 hQ10
  subst l10 y10 z10
  obtain ⟨rfl, N10q, Kq10⟩ := hQ10
  have N10 := Fr.app N9 N10q
  obtain ⟨_, _, ⟨T11, L11, k11, n11⟩, -, X11, ⟨Lc11, hQ11, l11, y11, z11⟩, st11⟩ := Jvm.LawKit.callS X10 hx (y := (⟨"java/util/List", "of", "()Ljava/util/List;"⟩ : MethodName)) hown (mvT hZ (tw50 hw)) (mvT hZ (tw51 hw)) (mvT hZ (tw52 hw)) (mvT hZ (tw53 hw)) (by decide) (backOf (W := 7) (rm_lof l Z a0 hw [] a_EMPTY_LIST h1 n0 (by omega) O1 S_EMPTY_LIST) hZ (tw53 hw) (tw52 hw) (by decide) (by decide)) (g := (mkF m 13 #[.val v1, .val v2, .val v3] [(.ref a_EMPTY_LIST), (.ref a_EMPTY_LIST), v3, v2, v1, (.ref b1), (.ref b1)])) rfl (by rw [hml]; rfl) (argsL := []) (rest := [(.ref a_EMPTY_LIST), (.ref a_EMPTY_LIST), v3, v2, v1, (.ref b1), (.ref b1)]) (lenOf pd14 rfl) rfl (by simp [own_cR, own_cI, own_cJ, own_cN, own_cat rv3, own_cat rv2, own_cat rv1]) (hb hby d_prog_4_method_3_13) (fun _ _ => ⟨rfl, Kq10, (by decide : 1 + 0 ≤ _), (by decide : 7 + 0 ≤ _)⟩)
  dsimp only [Pt.U, Pt.locs, Pt.cells, Pt.slots] at X11 l11 y11 z11 st11 hQ11
  subst l11 y11 z11
  obtain ⟨rfl, N11q, Kq11⟩ := hQ11
  have N11 := Fr.app N10 N11q
  obtain ⟨_, _, ⟨T12, L12, k12, n12⟩, -, X12, ⟨Lc12, hQ12, l12, y12, z12⟩, st12⟩ := Jvm.LawKit.callS X11 hx (y := (⟨"java/util/Set", "of", "()Ljava/util/Set;"⟩ : MethodName)) hown (mvT hZ (tw56 hw)) (mvT hZ (tw57 hw)) (mvT hZ (tw58 hw)) (mvT hZ (tw59 hw)) (by decide) (backOf (W := 8) (rm_sof l Z a0 hw [] a_EMPTY_SET h1 n0 (by omega) O1 S_EMPTY_SET) hZ (tw59 hw) (tw58 hw) (by decide) (by decide)) (g := (mkF m 16 #[.val v1, .val v2, .val v3] [(.ref a_EMPTY_LIST), (.ref a_EMPTY_LIST), (.ref a_EMPTY_LIST), v3, v2, v1, (.ref b1), (.ref b1)])) rfl (by rw [hml]; rfl) (argsL := []) (rest := [(.ref a_EMPTY_LIST), (.ref a_EMPTY_LIST), (.ref a_EMPTY_LIST), v3, v2, v1, (.ref b1), (.ref b1)]) (lenOf pd17 rfl) rfl (by simp [own_cR, own_cI, own_cJ, own_cN, own_cat rv3, own_cat rv2, own_cat rv1]) (hb hby d_prog_4_method_3_16) (fun _ _ => ⟨rfl, Kq11, (by decide : 1 + 0 ≤ _), (by decide : 7 + 0 ≤ _)⟩)
  dsimp only [Pt.U, Pt.locs, Pt.cells, Pt.slots] at X12 l12 y12 z12 st12 hQ12
  subst l12 y12 z12
  obtain ⟨rfl, N12q, Kq12⟩ := hQ12
  have N12 := Fr.app N11 N12q
  obtain ⟨_, _, ⟨T13, L13, k13, n13⟩, -, X13, ⟨Lc13, hQ13, l13, y13, z13⟩, st13⟩ := X12.specialBack hx (y := (⟨"com/example/fetcher/client/Received", "<init>", "(Ljava/lang/String;Ljava/lang/String;Ljava/lang/String;Ljava/util/List;Ljava/util/List;Ljava/util/List;Ljava/util/Set;)V"⟩ : MethodName)) rfl hown (mvT hZ (tw61 hw)) (mvT hZ (tw62 hw)) (mvT hZ (tw63 hw)) (by decide) (backOf (W := 1) (rm_riE l Z a0 hw [] b1 v1 v2 v3 .null .null .null .null .null .null .null a_EMPTY_LIST a_EMPTY_SET h1 n0 (by omega) O1 A1 f2 f3 f4 f5 f6 f7 f8 rv1 rv2 rv3 (by omega) E_a_EMPTY_LIST F_a_EMPTY_LIST_allowNulls E_a_EMPTY_SET) hZ (tw63 hw) (tw46 hw) (by decide) (by decide)) (g := (mkF m 19 #[.val v1, .val v2, .val v3] [(.ref a_EMPTY_SET), (.ref a_EMPTY_LIST), (.ref a_EMPTY_LIST), (.ref a_EMPTY_LIST), v3, v2, v1, (.ref b1), (.ref b1)])) rfl (by rw [hml]; rfl) (Steps.refl _) (a := b1) (argsL := [v1, v2, v3, (.ref a_EMPTY_LIST), (.ref a_EMPTY_LIST), (.ref a_EMPTY_LIST), (.ref a_EMPTY_SET)]) (rest := [(.ref b1)]) (lenOf pd18 rfl) rfl (by show 2 * 0 + _ ≤ _; exact Nat.le_of_eq rfl) (hb hby d_prog_4_method_3_19) (fun _ _ => ⟨rfl, Kq12, (by decide : 1 + 0 ≤ _), (by decide : 7 + 0 ≤ _)⟩)
  dsimp only [Pt.U, Pt.locs, Pt.cells, Pt.slots] at X13 l13 y13 z13 st13 hQ13
  subst l13 y13 z13
  obtain ⟨rfl, N13q, Kq13, p13_0, p13_1, p13_2, p13_3, p13_4⟩ := hQ13
  have N13 := Fr.app N12 N13q
  have z13 := Kq13.1
  have K13 := K1.trans Kq13 (allS (Or.inr (by omega)) all0)
  have O13 := O1.keep Kq13 (allS (by omega) all0)
  have lq14 : (b1 : Nat) < (T13.heap.size : Nat) := p13_0.lt
  have lq15 : (b1 : Nat) < (T13.heap.size : Nat) := p13_1.lt
  have lq16 : (b1 : Nat) < (T13.heap.size : Nat) := p13_2.lt
  have lq17 : (b1 : Nat) < (T13.heap.size : Nat) := p13_3.lt
  have lq18 : (b1 : Nat) < (T13.heap.size : Nat) := p13_4.lt
  have S19 : ∀ t_, Steps p.tables e below (T13.setTop (mkF m 22 #[.val v1, .val v2, .val v3] [(.ref b1)])) t_ → Steps p.tables e below (s₁.setTop (entryFrame m #[v1, v2, v3] 3)) t_ := by
    intro t_ k_
    refine S0 t_ ?_
    show Steps p.tables e below (s₁.setTop (mkF m 0 #[.val v1, .val v2, .val v3] [])) _
    refine st1 _ ?_
    show Steps p.tables e below (T1.setTop (mkF m 3 #[.val v1, .val v2, .val v3] [(.ref b1)])) _
    refine XS.dup X1.here hx rfl (hb hby d_prog_4_method_3_3) rfl rfl ?_
    show Steps p.tables e below (T1.setTop (mkF m 4 #[.val v1, .val v2, .val v3] [(.ref b1), (.ref b1)])) _
    refine XS.aloadN X1.here hx rfl (hb hby d_prog_4_method_3_4) rfl rv1 ?_
    show Steps p.tables e below (T1.setTop (mkF m 5 #[.val v1, .val v2, .val v3] [v1, (.ref b1), (.ref b1)])) _
    refine XS.aloadN X1.here hx rfl (hb hby d_prog_4_method_3_5) rfl rv2 ?_
    show Steps p.tables e below (T1.setTop (mkF m 6 #[.val v1, .val v2, .val v3] [v2, v1, (.ref b1), (.ref b1)])) _
    refine XS.aloadN X1.here hx rfl (hb hby d_prog_4_method_3_6) rfl rv3 ?_
    show Steps p.tables e below (T1.setTop (mkF m 7 #[.val v1, .val v2, .val v3] [v3, v2, v1, (.ref b1), (.ref b1)])) _
    refine st9 _ ?_
    show Steps p.tables e below (T9.setTop (mkF m 10 #[.val v1, .val v2, .val v3] [(.ref a_EMPTY_LIST), v3, v2, v1, (.ref b1), (.ref b1)])) _
    refine st10 _ ?_
    show Steps p.tables e below (T10.setTop (mkF m 13 #[.val v1, .val v2, .val v3] [(.ref a_EMPTY_LIST), (.ref a_EMPTY_LIST), v3, v2, v1, (.ref b1), (.ref b1)])) _
    refine st11 _ ?_
    show Steps p.tables e below (T11.setTop (mkF m 16 #[.val v1, .val v2, .val v3] [(.ref a_EMPTY_LIST), (.ref a_EMPTY_LIST), (.ref a_EMPTY_LIST), v3, v2, v1, (.ref b1), (.ref b1)])) _
    refine st12 _ ?_
    show Steps p.tables e below (T12.setTop (mkF m 19 #[.val v1, .val v2, .val v3] [(.ref a_EMPTY_SET), (.ref a_EMPTY_LIST), (.ref a_EMPTY_LIST), (.ref a_EMPTY_LIST), v3, v2, v1, (.ref b1), (.ref b1)])) _
    refine st13.trans ?_
    exact k_
  obtain ⟨fs, hr, hrun, hended, hW, hsame⟩ := X13.leave (v := (some (.ref b1))) (fun h => by rw [Bd.returns] at h; cases h)
  refine ⟨_, _, S19 _ ((retOut X13 hx Bd.returns rfl (Or.inr (Or.inr (Or.inr (Or.inr ⟨rfl, rfl, rfl⟩)))) (hb hby d_prog_4_method_3_22) hr)), hrun, hended, _, _, rfl, ?_, ⟨_, rfl⟩, hW, hsame.mono (by decide) (by decide)⟩
  show Q_err Z v1 v2 v3 a_EMPTY_LIST a_EMPTY_SET h0 n0 _ T13.heap _
  exact ⟨b1, rfl, N13, K13, p13_0, p13_1, p13_2, p13_3, p13_4, (by omega)⟩
def Q_r50 (Z : State) (o : Nat) (v1 : Value) (a1 : Nat) (g0 : Value) (g1 : Value) (g2 : Value) (g3 : Value) (g4 : Value) (g5 : Value) (g6 : Value) (a_EMPTY_LIST : Nat) (a_EMPTY_SET : Nat) (h0 : Heap) (n0 : Nat) (v : Option Value) (h : Heap) (L : List Loc) : Prop := v = none ∧ Fr n0 L ∧ Keep h0 h [o] ∧ (Exa Z h o "com/example/fetcher/client/Received") ∧ (Fld Z h o "com/example/fetcher/client/Received" "errorCode" "Ljava/lang/String;" .null)
theorem ef_r50 (m : MethodId) (o : Nat) (v1 : Value) (a1 : Nat) (g0 : Value) (g1 : Value) (g2 : Value) (g3 : Value) (g4 : Value) (g5 : Value) (g6 : Value) (a_EMPTY_LIST : Nat) (a_EMPTY_SET : Nat) (rv1 : v1.isRef = true) : entryFrame m #[(.ref o), v1, (.ref a1), (.ref a_EMPTY_LIST), (.ref a_EMPTY_LIST), (.ref a_EMPTY_SET)] 6 = (mkF m 0 #[.val (.ref o), .val v1, .val (.ref a1), .val (.ref a_EMPTY_LIST), .val (.ref a_EMPTY_LIST), .val (.ref a_EMPTY_SET)] []) := by
  simp [entryFrame, mkF, argsToLocals, own_cR, own_cI, own_cJ, own_cN, own_cat rv1]
set_option maxRecDepth 65536 in
set_option maxHeartbeats 40000000 in
theorem rm_r50 (l : Launch) (Z : State) (a0 : Array Value) (hw : ∀ d ∈ tables_1, d.before a0 Z = true) (ws : List Jvm.Cond) (o : Nat) (v1 : Value) (a1 : Nat) (g0 : Value) (g1 : Value) (g2 : Value) (g3 : Value) (g4 : Value) (g5 : Value) (g6 : Value) (a_EMPTY_LIST : Nat) (a_EMPTY_SET : Nat) (h0 : Heap) (n0 : Nat) (Z0 : n0 ≤ h0.size) (O0 : Old Z n0 h0) (Eo : Exa Z h0 o "com/example/fetcher/client/Received") (G0 : Fld Z h0 o "com/example/fetcher/client/Received" "replyTo" "Ljava/lang/String;" g0) (G1 : Fld Z h0 o "com/example/fetcher/client/Received" "errorCode" "Ljava/lang/String;" g1) (G2 : Fld Z h0 o "com/example/fetcher/client/Received" "errorText" "Ljava/lang/String;" g2) (G3 : Fld Z h0 o "com/example/fetcher/client/Received" "resources" "Ljava/util/List;" g3) (G4 : Fld Z h0 o "com/example/fetcher/client/Received" "returned" "Ljava/util/List;" g4) (G5 : Fld Z h0 o "com/example/fetcher/client/Received" "told" "Ljava/util/List;" g5) (G6 : Fld Z h0 o "com/example/fetcher/client/Received" "versions" "Ljava/util/Set;" g6) (rv1 : v1.isRef = true) (go : n0 ≤ o) (E1 : Exa Z h0 a1 "java/util/ArrayList") (F3 : Fld Z h0 a1 "java/util/ArrayList" "size" "I" (.int (0 : Int32))) (nea : a1 ≠ o) (E_a_EMPTY_LIST : Exa Z Z.heap a_EMPTY_LIST "java/util/ImmutableCollections$ListN") (F_a_EMPTY_LIST_allowNulls : Fld Z Z.heap a_EMPTY_LIST "java/util/ImmutableCollections$ListN" "allowNulls" "Z" (.int (0 : Int32))) (E_a_EMPTY_SET : Exa Z Z.heap a_EMPTY_SET "java/util/ImmutableCollections$SetN") (S_EMPTY_LIST : Sta Z Z.heap "java/util/ImmutableCollections" "EMPTY_LIST" "Ljava/util/ImmutableCollections$ListN;" (.ref a_EMPTY_LIST)) :
    MetFree l (⟨"com/example/fetcher/client/Received", "<init>", "(Ljava/lang/String;Ljava/util/List;Ljava/util/List;Ljava/util/List;Ljava/util/Set;)V"⟩ : MethodName) (head1 (Jvm.Cond.code (⟨"com/example/fetcher/client/Received", "<init>", "(Ljava/lang/String;Ljava/util/List;Ljava/util/List;Ljava/util/List;Ljava/util/Set;)V"⟩ : MethodName) prog_4_method_1_code 6 none :: ws) ({ frames := 4, cells := 0, slots := 0, locals := 57 } : Room)) (fun a_ U_ => a_ = #[(.ref o), v1, (.ref a1), (.ref a_EMPTY_LIST), (.ref a_EMPTY_LIST), (.ref a_EMPTY_SET)] ∧ Z.Warmed39 U_.vm ∧ U_.heap = h0) (fun _ _ _ _ _ => True) (fun _ U_ o_ U'_ => ∃ v_ L_, o_ = .returned v_ ∧ Q_r50 Z o v1 a1 g0 g1 g2 g3 g4 g5 g6 a_EMPTY_LIST a_EMPTY_SET h0 n0 v_ U'_.heap L_ ∧ FrameEnd U_ o_ U'_ L_ ({ frames := 4, cells := 0, slots := 0, locals := 57 } : Room).cells ({ frames := 4, cells := 0, slots := 0, locals := 57 } : Room).slots) := by
  refine MetFree.of_bodySF (plainFor_of_name pn13) hisR ?_
  intro p e s m args below meth c s₁ Bd hml0 hP hK
  obtain ⟨rfl, hZ, hh⟩ := hP
  have hx := Bd.exec
  have hby := Bd.bytes
  have hml : c.maxLocals = 6 := hml0
  have hown : s.vm.findClass "com/example/fetcher/client/Received" = some m.cls := findClass_of_methodNamed Bd.named
  have hnm := (name_of_methodNamed Bd.named Bd.method).1
  have X0 : Stand p l e ({ frames := 4, cells := 0, slots := 0, locals := 57 } : Room) s m #[(.ref o), v1, (.ref a1), (.ref a_EMPTY_LIST), (.ref a_EMPTY_LIST), (.ref a_EMPTY_SET)] below meth c s₁ [] 0 0 := Stand.of_body Bd
  have e0 : s₁.heap = h0 := by rw [← hh, Bd.state]; rfl
  have N0 := Fr.nil n0
  have oz : Z.heap.size = n0 := O0.1
  have S0 : ∀ t_, Steps p.tables e below (s₁.setTop (mkF m 0 #[.val (.ref o), .val v1, .val (.ref a1), .val (.ref a_EMPTY_LIST), .val (.ref a_EMPTY_LIST), .val (.ref a_EMPTY_SET)] [])) t_ → Steps p.tables e below (s₁.setTop (entryFrame m #[(.ref o), v1, (.ref a1), (.ref a_EMPTY_LIST), (.ref a_EMPTY_LIST), (.ref a_EMPTY_SET)] 6)) t_ := fun t_ k_ => castTop (ef_r50 m o v1 a1 g0 g1 g2 g3 g4 g5 g6 a_EMPTY_LIST a_EMPTY_SET rv1) k_
  have K0 := Keep.refl h0 [o]
  have lt_o : (o : Nat) < (h0.size : Nat) := Eo.lt
  have lt_a1 : (a1 : Nat) < (h0.size : Nat) := E1.lt
  have lt_a_EMPTY_LIST : (a_EMPTY_LIST : Nat) < (Z.heap.size : Nat) := E_a_EMPTY_LIST.lt
  have lt_a_EMPTY_SET : (a_EMPTY_SET : Nat) < (Z.heap.size : Nat) := E_a_EMPTY_SET.lt
  obtain ⟨_, _, ⟨T1, L1, k1, n1⟩, -, X1, ⟨Lc1, hQ1, l1, y1, z1⟩, st1⟩ := X0.specialBack hx (y := (⟨"com/example/fetcher/client/Received", "<init>", "(Ljava/lang/String;Ljava/lang/String;Ljava/lang/String;Ljava/util/List;Ljava/util/List;Ljava/util/List;Ljava/util/Set;)V"⟩ : MethodName)) rfl hown (mvT hZ (tw61 hw)) (mvT hZ (tw62 hw)) (mvT hZ (tw63 hw)) (by decide) (backOf (W := 0) (rm_ri0 l Z a0 hw [] o v1 a1 g0 g1 g2 g3 g4 g5 g6 a_EMPTY_LIST a_EMPTY_SET h0 n0 (by omega) O0 Eo G0 G1 G2 G3 G4 G5 G6 rv1 (by omega) E1 F3 (by omega : (a1 : Nat) ≠ (o : Nat)) E_a_EMPTY_LIST F_a_EMPTY_LIST_allowNulls E_a_EMPTY_SET S_EMPTY_LIST) hZ (tw63 hw) (tw46 hw) (by decide) (by decide)) (g := (mkF m 10 #[.val (.ref o), .val v1, .val (.ref a1), .val (.ref a_EMPTY_LIST), .val (.ref a_EMPTY_LIST), .val (.ref a_EMPTY_SET)] [(.ref a_EMPTY_SET), (.ref a_EMPTY_LIST), (.ref a_EMPTY_LIST), (.ref a1), .null, .null, v1, (.ref o)])) rfl (by rw [hml]; rfl) (Steps.refl _) (a := o) (argsL := [v1, .null, .null, (.ref a1), (.ref a_EMPTY_LIST), (.ref a_EMPTY_LIST), (.ref a_EMPTY_SET)]) (rest := []) (lenOf pd18 rfl) rfl (by show 2 * 0 + _ ≤ _; exact Nat.le_of_eq rfl) (hb hby d_prog_4_method_1_10) (fun _ _ => ⟨rfl, e0, (by decide : 0 + 0 ≤ _), (by decide : 0 + 0 ≤ _)⟩)
  dsimp only [Pt.U, Pt.locs, Pt.cells, Pt.slots] at X1 l1 y1 z1 st1 hQ1
  subst l1 y1 z1
  obtain ⟨rfl, N1q, Kq1, p1_0, p1_1⟩ := hQ1
  have N1 := Fr.app N0 N1q
  have z1 := Kq1.1
  have K1 := K0.trans Kq1 (allS (Or.inl (by simp)) all0)
  have O1 := O0.keep Kq1 (allS (by omega) all0)
  have lq2 : (o : Nat) < (T1.heap.size : Nat) := p1_0.lt
  have lq3 : (o : Nat) < (T1.heap.size : Nat) := p1_1.lt
  have S4 : ∀ t_, Steps p.tables e below (T1.setTop (mkF m 13 #[.val (.ref o), .val v1, .val (.ref a1), .val (.ref a_EMPTY_LIST), .val (.ref a_EMPTY_LIST), .val (.ref a_EMPTY_SET)] [])) t_ → Steps p.tables e below (s₁.setTop (entryFrame m #[(.ref o), v1, (.ref a1), (.ref a_EMPTY_LIST), (.ref a_EMPTY_LIST), (.ref a_EMPTY_SET)] 6)) t_ := by
    intro t_ k_
    refine S0 t_ ?_
    show Steps p.tables e below (s₁.setTop (mkF m 0 #[.val (.ref o), .val v1, .val (.ref a1), .val (.ref a_EMPTY_LIST), .val (.ref a_EMPTY_LIST), .val (.ref a_EMPTY_SET)] [])) _
    refine XS.aloadN X0.here hx rfl (hb hby d_prog_4_method_1_0) rfl rfl ?_
    show Steps p.tables e below (s₁.setTop (mkF m 1 #[.val (.ref o), .val v1, .val (.ref a1), .val (.ref a_EMPTY_LIST), .val (.ref a_EMPTY_LIST), .val (.ref a_EMPTY_SET)] [(.ref o)])) _
    refine XS.aloadN X0.here hx rfl (hb hby d_prog_4_method_1_1) rfl rv1 ?_
    show Steps p.tables e below (s₁.setTop (mkF m 2 #[.val (.ref o), .val v1, .val (.ref a1), .val (.ref a_EMPTY_LIST), .val (.ref a_EMPTY_LIST), .val (.ref a_EMPTY_SET)] [v1, (.ref o)])) _
    refine XS.aconstNull X0.here hx rfl (hb hby d_prog_4_method_1_2) ?_
    show Steps p.tables e below (s₁.setTop (mkF m 3 #[.val (.ref o), .val v1, .val (.ref a1), .val (.ref a_EMPTY_LIST), .val (.ref a_EMPTY_LIST), .val (.ref a_EMPTY_SET)] [.null, v1, (.ref o)])) _
    refine XS.aconstNull X0.here hx rfl (hb hby d_prog_4_method_1_3) ?_
    show Steps p.tables e below (s₁.setTop (mkF m 4 #[.val (.ref o), .val v1, .val (.ref a1), .val (.ref a_EMPTY_LIST), .val (.ref a_EMPTY_LIST), .val (.ref a_EMPTY_SET)] [.null, .null, v1, (.ref o)])) _
    refine XS.aloadN X0.here hx rfl (hb hby d_prog_4_method_1_4) rfl rfl ?_
    show Steps p.tables e below (s₁.setTop (mkF m 5 #[.val (.ref o), .val v1, .val (.ref a1), .val (.ref a_EMPTY_LIST), .val (.ref a_EMPTY_LIST), .val (.ref a_EMPTY_SET)] [(.ref a1), .null, .null, v1, (.ref o)])) _
    refine XS.aloadN X0.here hx rfl (hb hby d_prog_4_method_1_5) rfl rfl ?_
    show Steps p.tables e below (s₁.setTop (mkF m 6 #[.val (.ref o), .val v1, .val (.ref a1), .val (.ref a_EMPTY_LIST), .val (.ref a_EMPTY_LIST), .val (.ref a_EMPTY_SET)] [(.ref a_EMPTY_LIST), (.ref a1), .null, .null, v1, (.ref o)])) _
    refine XS.aload X0.here hx rfl (hb hby d_prog_4_method_1_6) rfl rfl ?_
    show Steps p.tables e below (s₁.setTop (mkF m 8 #[.val (.ref o), .val v1, .val (.ref a1), .val (.ref a_EMPTY_LIST), .val (.ref a_EMPTY_LIST), .val (.ref a_EMPTY_SET)] [(.ref a_EMPTY_LIST), (.ref a_EMPTY_LIST), (.ref a1), .null, .null, v1, (.ref o)])) _
    refine XS.aload X0.here hx rfl (hb hby d_prog_4_method_1_8) rfl rfl ?_
    show Steps p.tables e below (s₁.setTop (mkF m 10 #[.val (.ref o), .val v1, .val (.ref a1), .val (.ref a_EMPTY_LIST), .val (.ref a_EMPTY_LIST), .val (.ref a_EMPTY_SET)] [(.ref a_EMPTY_SET), (.ref a_EMPTY_LIST), (.ref a_EMPTY_LIST), (.ref a1), .null, .null, v1, (.ref o)])) _
    refine st1.trans ?_
    exact k_
  obtain ⟨fs, hr, hrun, hended, hW, hsame⟩ := X1.leave (v := none) (fun _ => rfl)
  refine ⟨_, _, S4 _ (X1.returnOut hx Bd.returns (hb hby d_prog_4_method_1_13) hr), hrun, hended, _, _, rfl, ?_, ⟨_, rfl⟩, hW, hsame.mono (by decide) (by decide)⟩
  show Q_r50 Z o v1 a1 g0 g1 g2 g3 g4 g5 g6 a_EMPTY_LIST a_EMPTY_SET h0 n0 _ T1.heap _
  exact ⟨rfl, N1, K1, p1_0, p1_1⟩
def Q_r51 (Z : State) (o : Nat) (v1 : Value) (a1 : Nat) (b : Nat) (x : Nat) (kb : ClassId) (mO : Nat) (a_EMPTY : Nat) (g0 : Value) (g1 : Value) (g2 : Value) (g3 : Value) (g4 : Value) (g5 : Value) (g6 : Value) (a_EMPTY_LIST : Nat) (a_EMPTY_SET : Nat) (h0 : Heap) (n0 : Nat) (v : Option Value) (h : Heap) (L : List Loc) : Prop := v = none ∧ Fr n0 L ∧ Keep h0 h [o] ∧ (Exa Z h o "com/example/fetcher/client/Received") ∧ (Fld Z h o "com/example/fetcher/client/Received" "errorCode" "Ljava/lang/String;" .null)
theorem ef_r51 (m : MethodId) (o : Nat) (v1 : Value) (a1 : Nat) (b : Nat) (x : Nat) (kb : ClassId) (mO : Nat) (a_EMPTY : Nat) (g0 : Value) (g1 : Value) (g2 : Value) (g3 : Value) (g4 : Value) (g5 : Value) (g6 : Value) (a_EMPTY_LIST : Nat) (a_EMPTY_SET : Nat) (rv1 : v1.isRef = true) : entryFrame m #[(.ref o), v1, (.ref a1), (.ref a_EMPTY_LIST), (.ref a_EMPTY_LIST), (.ref a_EMPTY_SET)] 6 = (mkF m 0 #[.val (.ref o), .val v1, .val (.ref a1), .val (.ref a_EMPTY_LIST), .val (.ref a_EMPTY_LIST), .val (.ref a_EMPTY_SET)] []) := by
  simp [entryFrame, mkF, argsToLocals, own_cR, own_cI, own_cJ, own_cN, own_cat rv1]
set_option maxRecDepth 65536 in
set_option maxHeartbeats 40000000 in
theorem rm_r51 (l : Launch) (Z : State) (a0 : Array Value) (hw : ∀ d ∈ tables_1, d.before a0 Z = true) (ws : List Jvm.Cond) (o : Nat) (v1 : Value) (a1 : Nat) (b : Nat) (x : Nat) (kb : ClassId) (mO : Nat) (a_EMPTY : Nat) (g0 : Value) (g1 : Value) (g2 : Value) (g3 : Value) (g4 : Value) (g5 : Value) (g6 : Value) (a_EMPTY_LIST : Nat) (a_EMPTY_SET : Nat) (h0 : Heap) (n0 : Nat) (Z0 : n0 ≤ h0.size) (O0 : Old Z n0 h0) (Eo : Exa Z h0 o "com/example/fetcher/client/Received") (G0 : Fld Z h0 o "com/example/fetcher/client/Received" "replyTo" "Ljava/lang/String;" g0) (G1 : Fld Z h0 o "com/example/fetcher/client/Received" "errorCode" "Ljava/lang/String;" g1) (G2 : Fld Z h0 o "com/example/fetcher/client/Received" "errorText" "Ljava/lang/String;" g2) (G3 : Fld Z h0 o "com/example/fetcher/client/Received" "resources" "Ljava/util/List;" g3) (G4 : Fld Z h0 o "com/example/fetcher/client/Received" "returned" "Ljava/util/List;" g4) (G5 : Fld Z h0 o "com/example/fetcher/client/Received" "told" "Ljava/util/List;" g5) (G6 : Fld Z h0 o "com/example/fetcher/client/Received" "versions" "Ljava/util/Set;" g6) (rv1 : v1.isRef = true) (go : n0 ≤ o) (nea : a1 ≠ o) (neb : b ≠ o) (nex : x ≠ o) (E1 : Exa Z h0 a1 "java/util/ArrayList") (F2 : Fld Z h0 a1 "java/util/ArrayList" "elementData" "[Ljava/lang/Object;" (.ref b)) (F3 : Fld Z h0 a1 "java/util/ArrayList" "size" "I" (.int (1 : Int32))) (A1 : Arv Z h0 b kb (.object "java/lang/Object") (10 : Int32) [(.ref x), .null, .null, .null, .null, .null, .null, .null, .null, .null] .null) (Eb : Exa Z h0 b "[Ljava/lang/Object;") (Ex : Exa Z h0 x "java/lang/String") (hmir : own_Mir Z "[Ljava/lang/Object;" mO) (S_EMPTY : Sta Z Z.heap "java/util/ImmutableCollections" "EMPTY" "Ljava/lang/Object;" (.ref a_EMPTY)) (E_a_EMPTY_LIST : Exa Z Z.heap a_EMPTY_LIST "java/util/ImmutableCollections$ListN") (F_a_EMPTY_LIST_allowNulls : Fld Z Z.heap a_EMPTY_LIST "java/util/ImmutableCollections$ListN" "allowNulls" "Z" (.int (0 : Int32))) (E_a_EMPTY_SET : Exa Z Z.heap a_EMPTY_SET "java/util/ImmutableCollections$SetN") :
    MetFree l (⟨"com/example/fetcher/client/Received", "<init>", "(Ljava/lang/String;Ljava/util/List;Ljava/util/List;Ljava/util/List;Ljava/util/Set;)V"⟩ : MethodName) (head1 (Jvm.Cond.code (⟨"com/example/fetcher/client/Received", "<init>", "(Ljava/lang/String;Ljava/util/List;Ljava/util/List;Ljava/util/List;Ljava/util/Set;)V"⟩ : MethodName) prog_4_method_1_code 6 none :: ws) ({ frames := 9, cells := 2, slots := 3, locals := 125 } : Room)) (fun a_ U_ => a_ = #[(.ref o), v1, (.ref a1), (.ref a_EMPTY_LIST), (.ref a_EMPTY_LIST), (.ref a_EMPTY_SET)] ∧ Z.Warmed39 U_.vm ∧ U_.heap = h0) (fun _ _ _ _ _ => True) (fun _ U_ o_ U'_ => ∃ v_ L_, o_ = .returned v_ ∧ Q_r51 Z o v1 a1 b x kb mO a_EMPTY g0 g1 g2 g3 g4 g5 g6 a_EMPTY_LIST a_EMPTY_SET h0 n0 v_ U'_.heap L_ ∧ FrameEnd U_ o_ U'_ L_ ({ frames := 9, cells := 2, slots := 3, locals := 125 } : Room).cells ({ frames := 9, cells := 2, slots := 3, locals := 125 } : Room).slots) := by
  refine MetFree.of_bodySF (plainFor_of_name pn13) hisR ?_
  intro p e s m args below meth c s₁ Bd hml0 hP hK
  obtain ⟨rfl, hZ, hh⟩ := hP
  have hx := Bd.exec
  have hby := Bd.bytes
  have hml : c.maxLocals = 6 := hml0
  have hown : s.vm.findClass "com/example/fetcher/client/Received" = some m.cls := findClass_of_methodNamed Bd.named
  have hnm := (name_of_methodNamed Bd.named Bd.method).1
  have X0 : Stand p l e ({ frames := 9, cells := 2, slots := 3, locals := 125 } : Room) s m #[(.ref o), v1, (.ref a1), (.ref a_EMPTY_LIST), (.ref a_EMPTY_LIST), (.ref a_EMPTY_SET)] below meth c s₁ [] 0 0 := Stand.of_body Bd
  have e0 : s₁.heap = h0 := by rw [← hh, Bd.state]; rfl
  have N0 := Fr.nil n0
  have oz : Z.heap.size = n0 := O0.1
  have S0 : ∀ t_, Steps p.tables e below (s₁.setTop (mkF m 0 #[.val (.ref o), .val v1, .val (.ref a1), .val (.ref a_EMPTY_LIST), .val (.ref a_EMPTY_LIST), .val (.ref a_EMPTY_SET)] [])) t_ → Steps p.tables e below (s₁.setTop (entryFrame m #[(.ref o), v1, (.ref a1), (.ref a_EMPTY_LIST), (.ref a_EMPTY_LIST), (.ref a_EMPTY_SET)] 6)) t_ := fun t_ k_ => castTop (ef_r51 m o v1 a1 b x kb mO a_EMPTY g0 g1 g2 g3 g4 g5 g6 a_EMPTY_LIST a_EMPTY_SET rv1) k_
  have K0 := Keep.refl h0 [o]
  have lt_o : (o : Nat) < (h0.size : Nat) := Eo.lt
  have lt_a1 : (a1 : Nat) < (h0.size : Nat) := E1.lt
  have lt_b : (b : Nat) < (h0.size : Nat) := A1.lt
  have lt_x : (x : Nat) < (h0.size : Nat) := Ex.lt
  have lt_a_EMPTY_LIST : (a_EMPTY_LIST : Nat) < (Z.heap.size : Nat) := E_a_EMPTY_LIST.lt
  have lt_a_EMPTY_SET : (a_EMPTY_SET : Nat) < (Z.heap.size : Nat) := E_a_EMPTY_SET.lt
  obtain ⟨_, _, ⟨T1, L1, k1, n1⟩, -, X1, ⟨Lc1, hQ1, l1, y1, z1⟩, st1⟩ := X0.specialBack hx (y := (⟨"com/example/fetcher/client/Received", "<init>", "(Ljava/lang/String;Ljava/lang/String;Ljava/lang/String;Ljava/util/List;Ljava/util/List;Ljava/util/List;Ljava/util/Set;)V"⟩ : MethodName)) rfl hown (mvT hZ (tw61 hw)) (mvT hZ (tw62 hw)) (mvT hZ (tw63 hw)) (by decide) (backOf (W := 0) (rm_ri1 l Z a0 hw [] o v1 a1 b x kb mO a_EMPTY g0 g1 g2 g3 g4 g5 g6 a_EMPTY_LIST a_EMPTY_SET h0 n0 (by omega) O0 Eo G0 G1 G2 G3 G4 G5 G6 rv1 (by omega) (by omega : (a1 : Nat) ≠ (o : Nat)) (by omega : (b : Nat) ≠ (o : Nat)) (by omega : (x : Nat) ≠ (o : Nat)) E1 F2 F3 A1 Eb Ex (by first | assumption | omega | decide) S_EMPTY E_a_EMPTY_LIST F_a_EMPTY_LIST_allowNulls E_a_EMPTY_SET) hZ (tw63 hw) (tw46 hw) (by decide) (by decide)) (g := (mkF m 10 #[.val (.ref o), .val v1, .val (.ref a1), .val (.ref a_EMPTY_LIST), .val (.ref a_EMPTY_LIST), .val (.ref a_EMPTY_SET)] [(.ref a_EMPTY_SET), (.ref a_EMPTY_LIST), (.ref a_EMPTY_LIST), (.ref a1), .null, .null, v1, (.ref o)])) rfl (by rw [hml]; rfl) (Steps.refl _) (a := o) (argsL := [v1, .null, .null, (.ref a1), (.ref a_EMPTY_LIST), (.ref a_EMPTY_LIST), (.ref a_EMPTY_SET)]) (rest := []) (lenOf pd18 rfl) rfl (by show 2 * 0 + _ ≤ _; exact Nat.le_of_eq rfl) (hb hby d_prog_4_method_1_10) (fun _ _ => ⟨rfl, e0, (by decide : 0 + 2 ≤ _), (by decide : 0 + 3 ≤ _)⟩)
  dsimp only [Pt.U, Pt.locs, Pt.cells, Pt.slots] at X1 l1 y1 z1 st1 hQ1
  subst l1 y1 z1
  obtain ⟨rfl, N1q, Kq1, p1_0, p1_1⟩ := hQ1
  have N1 := Fr.app N0 N1q
  have z1 := Kq1.1
  have K1 := K0.trans Kq1 (allS (Or.inl (by simp)) all0)
  have O1 := O0.keep Kq1 (allS (by omega) all0)
  have lq2 : (o : Nat) < (T1.heap.size : Nat) := p1_0.lt
  have lq3 : (o : Nat) < (T1.heap.size : Nat) := p1_1.lt
  have S4 : ∀ t_, Steps p.tables e below (T1.setTop (mkF m 13 #[.val (.ref o), .val v1, .val (.ref a1), .val (.ref a_EMPTY_LIST), .val (.ref a_EMPTY_LIST), .val (.ref a_EMPTY_SET)] [])) t_ → Steps p.tables e below (s₁.setTop (entryFrame m #[(.ref o), v1, (.ref a1), (.ref a_EMPTY_LIST), (.ref a_EMPTY_LIST), (.ref a_EMPTY_SET)] 6)) t_ := by
    intro t_ k_
    refine S0 t_ ?_
    show Steps p.tables e below (s₁.setTop (mkF m 0 #[.val (.ref o), .val v1, .val (.ref a1), .val (.ref a_EMPTY_LIST), .val (.ref a_EMPTY_LIST), .val (.ref a_EMPTY_SET)] [])) _
    refine XS.aloadN X0.here hx rfl (hb hby d_prog_4_method_1_0) rfl rfl ?_
    show Steps p.tables e below (s₁.setTop (mkF m 1 #[.val (.ref o), .val v1, .val (.ref a1), .val (.ref a_EMPTY_LIST), .val (.ref a_EMPTY_LIST), .val (.ref a_EMPTY_SET)] [(.ref o)])) _
    refine XS.aloadN X0.here hx rfl (hb hby d_prog_4_method_1_1) rfl rv1 ?_
    show Steps p.tables e below (s₁.setTop (mkF m 2 #[.val (.ref o), .val v1, .val (.ref a1), .val (.ref a_EMPTY_LIST), .val (.ref a_EMPTY_LIST), .val (.ref a_EMPTY_SET)] [v1, (.ref o)])) _
    refine XS.aconstNull X0.here hx rfl (hb hby d_prog_4_method_1_2) ?_
    show Steps p.tables e below (s₁.setTop (mkF m 3 #[.val (.ref o), .val v1, .val (.ref a1), .val (.ref a_EMPTY_LIST), .val (.ref a_EMPTY_LIST), .val (.ref a_EMPTY_SET)] [.null, v1, (.ref o)])) _
    refine XS.aconstNull X0.here hx rfl (hb hby d_prog_4_method_1_3) ?_
    show Steps p.tables e below (s₁.setTop (mkF m 4 #[.val (.ref o), .val v1, .val (.ref a1), .val (.ref a_EMPTY_LIST), .val (.ref a_EMPTY_LIST), .val (.ref a_EMPTY_SET)] [.null, .null, v1, (.ref o)])) _
    refine XS.aloadN X0.here hx rfl (hb hby d_prog_4_method_1_4) rfl rfl ?_
    show Steps p.tables e below (s₁.setTop (mkF m 5 #[.val (.ref o), .val v1, .val (.ref a1), .val (.ref a_EMPTY_LIST), .val (.ref a_EMPTY_LIST), .val (.ref a_EMPTY_SET)] [(.ref a1), .null, .null, v1, (.ref o)])) _
    refine XS.aloadN X0.here hx rfl (hb hby d_prog_4_method_1_5) rfl rfl ?_
    show Steps p.tables e below (s₁.setTop (mkF m 6 #[.val (.ref o), .val v1, .val (.ref a1), .val (.ref a_EMPTY_LIST), .val (.ref a_EMPTY_LIST), .val (.ref a_EMPTY_SET)] [(.ref a_EMPTY_LIST), (.ref a1), .null, .null, v1, (.ref o)])) _
    refine XS.aload X0.here hx rfl (hb hby d_prog_4_method_1_6) rfl rfl ?_
    show Steps p.tables e below (s₁.setTop (mkF m 8 #[.val (.ref o), .val v1, .val (.ref a1), .val (.ref a_EMPTY_LIST), .val (.ref a_EMPTY_LIST), .val (.ref a_EMPTY_SET)] [(.ref a_EMPTY_LIST), (.ref a_EMPTY_LIST), (.ref a1), .null, .null, v1, (.ref o)])) _
    refine XS.aload X0.here hx rfl (hb hby d_prog_4_method_1_8) rfl rfl ?_
    show Steps p.tables e below (s₁.setTop (mkF m 10 #[.val (.ref o), .val v1, .val (.ref a1), .val (.ref a_EMPTY_LIST), .val (.ref a_EMPTY_LIST), .val (.ref a_EMPTY_SET)] [(.ref a_EMPTY_SET), (.ref a_EMPTY_LIST), (.ref a_EMPTY_LIST), (.ref a1), .null, .null, v1, (.ref o)])) _
    refine st1.trans ?_
    exact k_
  obtain ⟨fs, hr, hrun, hended, hW, hsame⟩ := X1.leave (v := none) (fun _ => rfl)
  refine ⟨_, _, S4 _ (X1.returnOut hx Bd.returns (hb hby d_prog_4_method_1_13) hr), hrun, hended, _, _, rfl, ?_, ⟨_, rfl⟩, hW, hsame.mono (by decide) (by decide)⟩
  show Q_r51 Z o v1 a1 b x kb mO a_EMPTY g0 g1 g2 g3 g4 g5 g6 a_EMPTY_LIST a_EMPTY_SET h0 n0 _ T1.heap _
  exact ⟨rfl, N1, K1, p1_0, p1_1⟩
def Q_ieN (Z : State) (o : Nat) (h0 : Heap) (n0 : Nat) (v : Option Value) (h : Heap) (L : List Loc) : Prop := v = some (.int (0 : Int32)) ∧ Fr n0 L ∧ h = h0
theorem ef_ieN (m : MethodId) (o : Nat) : entryFrame m #[(.ref o)] 1 = (mkF m 0 #[.val (.ref o)] []) := by first | (simp [entryFrame, mkF, argsToLocals, Value.category]; done) | rfl
set_option maxRecDepth 65536 in
set_option maxHeartbeats 40000000 in
theorem rm_ieN (l : Launch) (Z : State) (a0 : Array Value) (hw : ∀ d ∈ tables_1, d.before a0 Z = true) (ws : List Jvm.Cond) (o : Nat) (h0 : Heap) (n0 : Nat) (Z0 : n0 ≤ h0.size) (O0 : Old Z n0 h0) (F1 : Fld Z h0 o "com/example/fetcher/client/Received" "errorCode" "Ljava/lang/String;" .null) :
    MetFree l (⟨"com/example/fetcher/client/Received", "isError", "()Z"⟩ : MethodName) (head1 (Jvm.Cond.code (⟨"com/example/fetcher/client/Received", "isError", "()Z"⟩ : MethodName) prog_4_method_5_code 1 (some .boolean) :: ws) ({ frames := 0, cells := 0, slots := 0, locals := 0 } : Room)) (fun a_ U_ => a_ = #[(.ref o)] ∧ Z.Warmed39 U_.vm ∧ U_.heap = h0) (fun _ _ _ _ _ => True) (fun _ U_ o_ U'_ => ∃ v_ L_, o_ = .returned v_ ∧ Q_ieN Z o h0 n0 v_ U'_.heap L_ ∧ FrameEnd U_ o_ U'_ L_ ({ frames := 0, cells := 0, slots := 0, locals := 0 } : Room).cells ({ frames := 0, cells := 0, slots := 0, locals := 0 } : Room).slots) := by
  refine MetFree.of_bodySF (plainFor_of_name pn13) hisR ?_
  intro p e s m args below meth c s₁ Bd hml0 hP hK
  obtain ⟨rfl, hZ, hh⟩ := hP
  have hx := Bd.exec
  have hby := Bd.bytes
  have hml : c.maxLocals = 1 := hml0
  have hown : s.vm.findClass "com/example/fetcher/client/Received" = some m.cls := findClass_of_methodNamed Bd.named
  have hnm := (name_of_methodNamed Bd.named Bd.method).1
  have X0 : Stand p l e ({ frames := 0, cells := 0, slots := 0, locals := 0 } : Room) s m #[(.ref o)] below meth c s₁ [] 0 0 := Stand.of_body Bd
  have e0 : s₁.heap = h0 := by rw [← hh, Bd.state]; rfl
  have N0 := Fr.nil n0
  have oz : Z.heap.size = n0 := O0.1
  have S0 : ∀ t_, Steps p.tables e below (s₁.setTop (mkF m 0 #[.val (.ref o)] [])) t_ → Steps p.tables e below (s₁.setTop (entryFrame m #[(.ref o)] 1)) t_ := fun t_ k_ => castTop (ef_ieN m o) k_
  have lt_o : (o : Nat) < (h0.size : Nat) := F1.lt
  obtain ⟨T1, X1, e1, st1⟩ := getF X0 hx hZ hown (host := "") (Or.inl (tw67 hw)) Via.refl e0 F1 (g := (mkF m 1 #[.val (.ref o)] [(.ref o)])) rfl rfl (hb hby d_prog_4_method_5_1)
  have S2 : ∀ t_, Steps p.tables e below (T1.setTop (mkF m 12 #[.val (.ref o)] [(.int (0 : Int32))])) t_ → Steps p.tables e below (s₁.setTop (entryFrame m #[(.ref o)] 1)) t_ := by
    intro t_ k_
    refine S0 t_ ?_
    show Steps p.tables e below (s₁.setTop (mkF m 0 #[.val (.ref o)] [])) _
    refine XS.aloadN X0.here hx rfl (hb hby d_prog_4_method_5_0) rfl rfl ?_
    show Steps p.tables e below (s₁.setTop (mkF m 1 #[.val (.ref o)] [(.ref o)])) _
    refine st1 _ ?_
    show Steps p.tables e below (T1.setTop (mkF m 4 #[.val (.ref o)] [.null])) _
    refine XS.ifnullYes X1.here hx rfl (pc0 := 4) (pc' := 11) rfl (hb hby d_prog_4_method_5_4) rfl (by decide) (by decide) ?_
    show Steps p.tables e below (T1.setTop (mkF m 11 #[.val (.ref o)] [])) _
    refine XT.iconstV X1.here hx rfl (0 : Int32) (hb hby d_prog_4_method_5_11) (by decide) ?_
    exact k_
  obtain ⟨fs, hr, hrun, hended, hW, hsame⟩ := X1.leave (v := (some (.int (0 : Int32)))) (fun h => by rw [Bd.returns] at h; cases h)
  refine ⟨_, _, S2 _ ((retN X1 hx (t := .boolean) Bd.returns (by simp) (hb hby d_prog_4_method_5_12) hr)), hrun, hended, _, _, rfl, ?_, ⟨_, rfl⟩, hW, hsame.mono (by decide) (by decide)⟩
  show Q_ieN Z o h0 n0 _ T1.heap _
  rw [e1]
  exact ⟨rfl, N0, rfl⟩
def Q_ieR (Z : State) (o : Nat) (x : Nat) (h0 : Heap) (n0 : Nat) (v : Option Value) (h : Heap) (L : List Loc) : Prop := v = some (.int (1 : Int32)) ∧ Fr n0 L ∧ h = h0
theorem ef_ieR (m : MethodId) (o : Nat) (x : Nat) : entryFrame m #[(.ref o)] 1 = (mkF m 0 #[.val (.ref o)] []) := by first | (simp [entryFrame, mkF, argsToLocals, Value.category]; done) | rfl
set_option maxRecDepth 65536 in
set_option maxHeartbeats 40000000 in
theorem rm_ieR (l : Launch) (Z : State) (a0 : Array Value) (hw : ∀ d ∈ tables_1, d.before a0 Z = true) (ws : List Jvm.Cond) (o : Nat) (x : Nat) (h0 : Heap) (n0 : Nat) (Z0 : n0 ≤ h0.size) (O0 : Old Z n0 h0) (F1 : Fld Z h0 o "com/example/fetcher/client/Received" "errorCode" "Ljava/lang/String;" (.ref x)) :
    MetFree l (⟨"com/example/fetcher/client/Received", "isError", "()Z"⟩ : MethodName) (head1 (Jvm.Cond.code (⟨"com/example/fetcher/client/Received", "isError", "()Z"⟩ : MethodName) prog_4_method_5_code 1 (some .boolean) :: ws) ({ frames := 0, cells := 0, slots := 0, locals := 0 } : Room)) (fun a_ U_ => a_ = #[(.ref o)] ∧ Z.Warmed39 U_.vm ∧ U_.heap = h0) (fun _ _ _ _ _ => True) (fun _ U_ o_ U'_ => ∃ v_ L_, o_ = .returned v_ ∧ Q_ieR Z o x h0 n0 v_ U'_.heap L_ ∧ FrameEnd U_ o_ U'_ L_ ({ frames := 0, cells := 0, slots := 0, locals := 0 } : Room).cells ({ frames := 0, cells := 0, slots := 0, locals := 0 } : Room).slots) := by
  refine MetFree.of_bodySF (plainFor_of_name pn13) hisR ?_
  intro p e s m args below meth c s₁ Bd hml0 hP hK
  obtain ⟨rfl, hZ, hh⟩ := hP
  have hx := Bd.exec
  have hby := Bd.bytes
  have hml : c.maxLocals = 1 := hml0
  have hown : s.vm.findClass "com/example/fetcher/client/Received" = some m.cls := findClass_of_methodNamed Bd.named
  have hnm := (name_of_methodNamed Bd.named Bd.method).1
  have X0 : Stand p l e ({ frames := 0, cells := 0, slots := 0, locals := 0 } : Room) s m #[(.ref o)] below meth c s₁ [] 0 0 := Stand.of_body Bd
  have e0 : s₁.heap = h0 := by rw [← hh, Bd.state]; rfl
  have N0 := Fr.nil n0
  have oz : Z.heap.size = n0 := O0.1
  have S0 : ∀ t_, Steps p.tables e below (s₁.setTop (mkF m 0 #[.val (.ref o)] [])) t_ → Steps p.tables e below (s₁.setTop (entryFrame m #[(.ref o)] 1)) t_ := fun t_ k_ => castTop (ef_ieR m o x) k_
  have lt_o : (o : Nat) < (h0.size : Nat) := F1.lt
  obtain ⟨T1, X1, e1, st1⟩ := getF X0 hx hZ hown (host := "") (Or.inl (tw67 hw)) Via.refl e0 F1 (g := (mkF m 1 #[.val (.ref o)] [(.ref o)])) rfl rfl (hb hby d_prog_4_method_5_1)
  have S2 : ∀ t_, Steps p.tables e below (T1.setTop (mkF m 12 #[.val (.ref o)] [(.int (1 : Int32))])) t_ → Steps p.tables e below (s₁.setTop (entryFrame m #[(.ref o)] 1)) t_ := by
    intro t_ k_
    refine S0 t_ ?_
    show Steps p.tables e below (s₁.setTop (mkF m 0 #[.val (.ref o)] [])) _
    refine XS.aloadN X0.here hx rfl (hb hby d_prog_4_method_5_0) rfl rfl ?_
    show Steps p.tables e below (s₁.setTop (mkF m 1 #[.val (.ref o)] [(.ref o)])) _
    refine st1 _ ?_
    show Steps p.tables e below (T1.setTop (mkF m 4 #[.val (.ref o)] [(.ref x)])) _
    refine XS.ifnullNo X1.here hx rfl (hb hby d_prog_4_method_5_4) rfl ?_
    show Steps p.tables e below (T1.setTop (mkF m 7 #[.val (.ref o)] [])) _
    refine XT.iconstV X1.here hx rfl (1 : Int32) (hb hby d_prog_4_method_5_7) (by decide) ?_
    show Steps p.tables e below (T1.setTop (mkF m 8 #[.val (.ref o)] [(.int (1 : Int32))])) _
    refine XS.goto X1.here hx rfl (pc0 := 8) (pc' := 12) rfl (hb hby d_prog_4_method_5_8) (by decide) (by decide) ?_
    exact k_
  obtain ⟨fs, hr, hrun, hended, hW, hsame⟩ := X1.leave (v := (some (.int (1 : Int32)))) (fun h => by rw [Bd.returns] at h; cases h)
  refine ⟨_, _, S2 _ ((retN X1 hx (t := .boolean) Bd.returns (by simp) (hb hby d_prog_4_method_5_12) hr)), hrun, hended, _, _, rfl, ?_, ⟨_, rfl⟩, hW, hsame.mono (by decide) (by decide)⟩
  show Q_ieR Z o x h0 n0 _ T1.heap _
  rw [e1]
  exact ⟨rfl, N0, rfl⟩
def Q_ecN (Z : State) (o : Nat) (h0 : Heap) (n0 : Nat) (v : Option Value) (h : Heap) (L : List Loc) : Prop := v = some .null ∧ Fr n0 L ∧ h = h0
theorem ef_ecN (m : MethodId) (o : Nat) : entryFrame m #[(.ref o)] 1 = (mkF m 0 #[.val (.ref o)] []) := by first | (simp [entryFrame, mkF, argsToLocals, Value.category]; done) | rfl
set_option maxRecDepth 65536 in
set_option maxHeartbeats 40000000 in
theorem rm_ecN (l : Launch) (Z : State) (a0 : Array Value) (hw : ∀ d ∈ tables_1, d.before a0 Z = true) (ws : List Jvm.Cond) (o : Nat) (h0 : Heap) (n0 : Nat) (Z0 : n0 ≤ h0.size) (O0 : Old Z n0 h0) (F1 : Fld Z h0 o "com/example/fetcher/client/Received" "errorCode" "Ljava/lang/String;" .null) :
    MetFree l (⟨"com/example/fetcher/client/Received", "errorCode", "()Ljava/lang/String;"⟩ : MethodName) (head1 (Jvm.Cond.code (⟨"com/example/fetcher/client/Received", "errorCode", "()Ljava/lang/String;"⟩ : MethodName) prog_4_method_6_code 1 (some (.object "java/lang/String")) :: ws) ({ frames := 0, cells := 0, slots := 0, locals := 0 } : Room)) (fun a_ U_ => a_ = #[(.ref o)] ∧ Z.Warmed39 U_.vm ∧ U_.heap = h0) (fun _ _ _ _ _ => True) (fun _ U_ o_ U'_ => ∃ v_ L_, o_ = .returned v_ ∧ Q_ecN Z o h0 n0 v_ U'_.heap L_ ∧ FrameEnd U_ o_ U'_ L_ ({ frames := 0, cells := 0, slots := 0, locals := 0 } : Room).cells ({ frames := 0, cells := 0, slots := 0, locals := 0 } : Room).slots) := by
  refine MetFree.of_bodySF (plainFor_of_name pn13) hisR ?_
  intro p e s m args below meth c s₁ Bd hml0 hP hK
  obtain ⟨rfl, hZ, hh⟩ := hP
  have hx := Bd.exec
  have hby := Bd.bytes
  have hml : c.maxLocals = 1 := hml0
  have hown : s.vm.findClass "com/example/fetcher/client/Received" = some m.cls := findClass_of_methodNamed Bd.named
  have hnm := (name_of_methodNamed Bd.named Bd.method).1
  have X0 : Stand p l e ({ frames := 0, cells := 0, slots := 0, locals := 0 } : Room) s m #[(.ref o)] below meth c s₁ [] 0 0 := Stand.of_body Bd
  have e0 : s₁.heap = h0 := by rw [← hh, Bd.state]; rfl
  have N0 := Fr.nil n0
  have oz : Z.heap.size = n0 := O0.1
  have S0 : ∀ t_, Steps p.tables e below (s₁.setTop (mkF m 0 #[.val (.ref o)] [])) t_ → Steps p.tables e below (s₁.setTop (entryFrame m #[(.ref o)] 1)) t_ := fun t_ k_ => castTop (ef_ecN m o) k_
  have lt_o : (o : Nat) < (h0.size : Nat) := F1.lt
  obtain ⟨T1, X1, e1, st1⟩ := getF X0 hx hZ hown (host := "") (Or.inl (tw67 hw)) Via.refl e0 F1 (g := (mkF m 1 #[.val (.ref o)] [(.ref o)])) rfl rfl (hb hby d_prog_4_method_6_1)
  have S2 : ∀ t_, Steps p.tables e below (T1.setTop (mkF m 4 #[.val (.ref o)] [.null])) t_ → Steps p.tables e below (s₁.setTop (entryFrame m #[(.ref o)] 1)) t_ := by
    intro t_ k_
    refine S0 t_ ?_
    show Steps p.tables e below (s₁.setTop (mkF m 0 #[.val (.ref o)] [])) _
    refine XS.aloadN X0.here hx rfl (hb hby d_prog_4_method_6_0) rfl rfl ?_
    show Steps p.tables e below (s₁.setTop (mkF m 1 #[.val (.ref o)] [(.ref o)])) _
    refine st1 _ ?_
    exact k_
  obtain ⟨fs, hr, hrun, hended, hW, hsame⟩ := X1.leave (v := (some .null)) (fun h => by rw [Bd.returns] at h; cases h)
  refine ⟨_, _, S2 _ ((retOut X1 hx Bd.returns rfl (Or.inr (Or.inr (Or.inr (Or.inr ⟨rfl, rfl, rfl⟩)))) (hb hby d_prog_4_method_6_4) hr)), hrun, hended, _, _, rfl, ?_, ⟨_, rfl⟩, hW, hsame.mono (by decide) (by decide)⟩
  show Q_ecN Z o h0 n0 _ T1.heap _
  rw [e1]
  exact ⟨rfl, N0, rfl⟩
def Q_ecR (Z : State) (o : Nat) (x : Nat) (h0 : Heap) (n0 : Nat) (v : Option Value) (h : Heap) (L : List Loc) : Prop := v = some (.ref x) ∧ Fr n0 L ∧ h = h0
theorem ef_ecR (m : MethodId) (o : Nat) (x : Nat) : entryFrame m #[(.ref o)] 1 = (mkF m 0 #[.val (.ref o)] []) := by first | (simp [entryFrame, mkF, argsToLocals, Value.category]; done) | rfl
set_option maxRecDepth 65536 in
set_option maxHeartbeats 40000000 in
theorem rm_ecR (l : Launch) (Z : State) (a0 : Array Value) (hw : ∀ d ∈ tables_1, d.before a0 Z = true) (ws : List Jvm.Cond) (o : Nat) (x : Nat) (h0 : Heap) (n0 : Nat) (Z0 : n0 ≤ h0.size) (O0 : Old Z n0 h0) (F1 : Fld Z h0 o "com/example/fetcher/client/Received" "errorCode" "Ljava/lang/String;" (.ref x)) :
    MetFree l (⟨"com/example/fetcher/client/Received", "errorCode", "()Ljava/lang/String;"⟩ : MethodName) (head1 (Jvm.Cond.code (⟨"com/example/fetcher/client/Received", "errorCode", "()Ljava/lang/String;"⟩ : MethodName) prog_4_method_6_code 1 (some (.object "java/lang/String")) :: ws) ({ frames := 0, cells := 0, slots := 0, locals := 0 } : Room)) (fun a_ U_ => a_ = #[(.ref o)] ∧ Z.Warmed39 U_.vm ∧ U_.heap = h0) (fun _ _ _ _ _ => True) (fun _ U_ o_ U'_ => ∃ v_ L_, o_ = .returned v_ ∧ Q_ecR Z o x h0 n0 v_ U'_.heap L_ ∧ FrameEnd U_ o_ U'_ L_ ({ frames := 0, cells := 0, slots := 0, locals := 0 } : Room).cells ({ frames := 0, cells := 0, slots := 0, locals := 0 } : Room).slots) := by
  refine MetFree.of_bodySF (plainFor_of_name pn13) hisR ?_
  intro p e s m args below meth c s₁ Bd hml0 hP hK
  obtain ⟨rfl, hZ, hh⟩ := hP
  have hx := Bd.exec
  have hby := Bd.bytes
  have hml : c.maxLocals = 1 := hml0
  have hown : s.vm.findClass "com/example/fetcher/client/Received" = some m.cls := findClass_of_methodNamed Bd.named
  have hnm := (name_of_methodNamed Bd.named Bd.method).1
  have X0 : Stand p l e ({ frames := 0, cells := 0, slots := 0, locals := 0 } : Room) s m #[(.ref o)] below meth c s₁ [] 0 0 := Stand.of_body Bd
  have e0 : s₁.heap = h0 := by rw [← hh, Bd.state]; rfl
  have N0 := Fr.nil n0
  have oz : Z.heap.size = n0 := O0.1
  have S0 : ∀ t_, Steps p.tables e below (s₁.setTop (mkF m 0 #[.val (.ref o)] [])) t_ → Steps p.tables e below (s₁.setTop (entryFrame m #[(.ref o)] 1)) t_ := fun t_ k_ => castTop (ef_ecR m o x) k_
  have lt_o : (o : Nat) < (h0.size : Nat) := F1.lt
  obtain ⟨T1, X1, e1, st1⟩ := getF X0 hx hZ hown (host := "") (Or.inl (tw67 hw)) Via.refl e0 F1 (g := (mkF m 1 #[.val (.ref o)] [(.ref o)])) rfl rfl (hb hby d_prog_4_method_6_1)
  have S2 : ∀ t_, Steps p.tables e below (T1.setTop (mkF m 4 #[.val (.ref o)] [(.ref x)])) t_ → Steps p.tables e below (s₁.setTop (entryFrame m #[(.ref o)] 1)) t_ := by
    intro t_ k_
    refine S0 t_ ?_
    show Steps p.tables e below (s₁.setTop (mkF m 0 #[.val (.ref o)] [])) _
    refine XS.aloadN X0.here hx rfl (hb hby d_prog_4_method_6_0) rfl rfl ?_
    show Steps p.tables e below (s₁.setTop (mkF m 1 #[.val (.ref o)] [(.ref o)])) _
    refine st1 _ ?_
    exact k_
  obtain ⟨fs, hr, hrun, hended, hW, hsame⟩ := X1.leave (v := (some (.ref x))) (fun h => by rw [Bd.returns] at h; cases h)
  refine ⟨_, _, S2 _ ((retOut X1 hx Bd.returns rfl (Or.inr (Or.inr (Or.inr (Or.inr ⟨rfl, rfl, rfl⟩)))) (hb hby d_prog_4_method_6_4) hr)), hrun, hended, _, _, rfl, ?_, ⟨_, rfl⟩, hW, hsame.mono (by decide) (by decide)⟩
  show Q_ecR Z o x h0 n0 _ T1.heap _
  rw [e1]
  exact ⟨rfl, N0, rfl⟩
def Q_gre (Z : State) (o : Nat) (x : Nat) (h0 : Heap) (n0 : Nat) (v : Option Value) (h : Heap) (L : List Loc) : Prop := v = some (.ref x) ∧ Fr n0 L ∧ h = h0
theorem ef_gre (m : MethodId) (o : Nat) (x : Nat) : entryFrame m #[(.ref o)] 1 = (mkF m 0 #[.val (.ref o)] []) := by first | (simp [entryFrame, mkF, argsToLocals, Value.category]; done) | rfl
set_option maxRecDepth 65536 in
set_option maxHeartbeats 40000000 in
theorem rm_gre (l : Launch) (Z : State) (a0 : Array Value) (hw : ∀ d ∈ tables_1, d.before a0 Z = true) (ws : List Jvm.Cond) (o : Nat) (x : Nat) (h0 : Heap) (n0 : Nat) (Z0 : n0 ≤ h0.size) (O0 : Old Z n0 h0) (F1 : Fld Z h0 o "com/example/fetcher/client/Received" "returned" "Ljava/util/List;" (.ref x)) :
    MetFree l (⟨"com/example/fetcher/client/Received", "returned", "()Ljava/util/List;"⟩ : MethodName) (head1 (Jvm.Cond.code (⟨"com/example/fetcher/client/Received", "returned", "()Ljava/util/List;"⟩ : MethodName) prog_4_method_9_code 1 (some (.object "java/util/List")) :: ws) ({ frames := 0, cells := 0, slots := 0, locals := 0 } : Room)) (fun a_ U_ => a_ = #[(.ref o)] ∧ Z.Warmed39 U_.vm ∧ U_.heap = h0) (fun _ _ _ _ _ => True) (fun _ U_ o_ U'_ => ∃ v_ L_, o_ = .returned v_ ∧ Q_gre Z o x h0 n0 v_ U'_.heap L_ ∧ FrameEnd U_ o_ U'_ L_ ({ frames := 0, cells := 0, slots := 0, locals := 0 } : Room).cells ({ frames := 0, cells := 0, slots := 0, locals := 0 } : Room).slots) := by
  refine MetFree.of_bodySF (plainFor_of_name pn13) hisR ?_
  intro p e s m args below meth c s₁ Bd hml0 hP hK
  obtain ⟨rfl, hZ, hh⟩ := hP
  have hx := Bd.exec
  have hby := Bd.bytes
  have hml : c.maxLocals = 1 := hml0
  have hown : s.vm.findClass "com/example/fetcher/client/Received" = some m.cls := findClass_of_methodNamed Bd.named
  have hnm := (name_of_methodNamed Bd.named Bd.method).1
  have X0 : Stand p l e ({ frames := 0, cells := 0, slots := 0, locals := 0 } : Room) s m #[(.ref o)] below meth c s₁ [] 0 0 := Stand.of_body Bd
  have e0 : s₁.heap = h0 := by rw [← hh, Bd.state]; rfl
  have N0 := Fr.nil n0
  have oz : Z.heap.size = n0 := O0.1
  have S0 : ∀ t_, Steps p.tables e below (s₁.setTop (mkF m 0 #[.val (.ref o)] [])) t_ → Steps p.tables e below (s₁.setTop (entryFrame m #[(.ref o)] 1)) t_ := fun t_ k_ => castTop (ef_gre m o x) k_
  have lt_o : (o : Nat) < (h0.size : Nat) := F1.lt
  obtain ⟨T1, X1, e1, st1⟩ := getF X0 hx hZ hown (host := "") (Or.inl (tw91 hw)) Via.refl e0 F1 (g := (mkF m 1 #[.val (.ref o)] [(.ref o)])) rfl rfl (hb hby d_prog_4_method_9_1)
  have S2 : ∀ t_, Steps p.tables e below (T1.setTop (mkF m 4 #[.val (.ref o)] [(.ref x)])) t_ → Steps p.tables e below (s₁.setTop (entryFrame m #[(.ref o)] 1)) t_ := by
    intro t_ k_
    refine S0 t_ ?_
    show Steps p.tables e below (s₁.setTop (mkF m 0 #[.val (.ref o)] [])) _
    refine XS.aloadN X0.here hx rfl (hb hby d_prog_4_method_9_0) rfl rfl ?_
    show Steps p.tables e below (s₁.setTop (mkF m 1 #[.val (.ref o)] [(.ref o)])) _
    refine st1 _ ?_
    exact k_
  obtain ⟨fs, hr, hrun, hended, hW, hsame⟩ := X1.leave (v := (some (.ref x))) (fun h => by rw [Bd.returns] at h; cases h)
  refine ⟨_, _, S2 _ ((retOut X1 hx Bd.returns rfl (Or.inr (Or.inr (Or.inr (Or.inr ⟨rfl, rfl, rfl⟩)))) (hb hby d_prog_4_method_9_4) hr)), hrun, hended, _, _, rfl, ?_, ⟨_, rfl⟩, hW, hsame.mono (by decide) (by decide)⟩
  show Q_gre Z o x h0 n0 _ T1.heap _
  rw [e1]
  exact ⟨rfl, N0, rfl⟩
def Q_gto (Z : State) (o : Nat) (x : Nat) (h0 : Heap) (n0 : Nat) (v : Option Value) (h : Heap) (L : List Loc) : Prop := v = some (.ref x) ∧ Fr n0 L ∧ h = h0
theorem ef_gto (m : MethodId) (o : Nat) (x : Nat) : entryFrame m #[(.ref o)] 1 = (mkF m 0 #[.val (.ref o)] []) := by first | (simp [entryFrame, mkF, argsToLocals, Value.category]; done) | rfl
set_option maxRecDepth 65536 in
set_option maxHeartbeats 40000000 in
theorem rm_gto (l : Launch) (Z : State) (a0 : Array Value) (hw : ∀ d ∈ tables_1, d.before a0 Z = true) (ws : List Jvm.Cond) (o : Nat) (x : Nat) (h0 : Heap) (n0 : Nat) (Z0 : n0 ≤ h0.size) (O0 : Old Z n0 h0) (F1 : Fld Z h0 o "com/example/fetcher/client/Received" "told" "Ljava/util/List;" (.ref x)) :
    MetFree l (⟨"com/example/fetcher/client/Received", "told", "()Ljava/util/List;"⟩ : MethodName) (head1 (Jvm.Cond.code (⟨"com/example/fetcher/client/Received", "told", "()Ljava/util/List;"⟩ : MethodName) prog_4_method_10_code 1 (some (.object "java/util/List")) :: ws) ({ frames := 0, cells := 0, slots := 0, locals := 0 } : Room)) (fun a_ U_ => a_ = #[(.ref o)] ∧ Z.Warmed39 U_.vm ∧ U_.heap = h0) (fun _ _ _ _ _ => True) (fun _ U_ o_ U'_ => ∃ v_ L_, o_ = .returned v_ ∧ Q_gto Z o x h0 n0 v_ U'_.heap L_ ∧ FrameEnd U_ o_ U'_ L_ ({ frames := 0, cells := 0, slots := 0, locals := 0 } : Room).cells ({ frames := 0, cells := 0, slots := 0, locals := 0 } : Room).slots) := by
  refine MetFree.of_bodySF (plainFor_of_name pn13) hisR ?_
  intro p e s m args below meth c s₁ Bd hml0 hP hK
  obtain ⟨rfl, hZ, hh⟩ := hP
  have hx := Bd.exec
  have hby := Bd.bytes
  have hml : c.maxLocals = 1 := hml0
  have hown : s.vm.findClass "com/example/fetcher/client/Received" = some m.cls := findClass_of_methodNamed Bd.named
  have hnm := (name_of_methodNamed Bd.named Bd.method).1
  have X0 : Stand p l e ({ frames := 0, cells := 0, slots := 0, locals := 0 } : Room) s m #[(.ref o)] below meth c s₁ [] 0 0 := Stand.of_body Bd
  have e0 : s₁.heap = h0 := by rw [← hh, Bd.state]; rfl
  have N0 := Fr.nil n0
  have oz : Z.heap.size = n0 := O0.1
  have S0 : ∀ t_, Steps p.tables e below (s₁.setTop (mkF m 0 #[.val (.ref o)] [])) t_ → Steps p.tables e below (s₁.setTop (entryFrame m #[(.ref o)] 1)) t_ := fun t_ k_ => castTop (ef_gto m o x) k_
  have lt_o : (o : Nat) < (h0.size : Nat) := F1.lt
  obtain ⟨T1, X1, e1, st1⟩ := getF X0 hx hZ hown (host := "") (Or.inl (tw93 hw)) Via.refl e0 F1 (g := (mkF m 1 #[.val (.ref o)] [(.ref o)])) rfl rfl (hb hby d_prog_4_method_10_1)
  have S2 : ∀ t_, Steps p.tables e below (T1.setTop (mkF m 4 #[.val (.ref o)] [(.ref x)])) t_ → Steps p.tables e below (s₁.setTop (entryFrame m #[(.ref o)] 1)) t_ := by
    intro t_ k_
    refine S0 t_ ?_
    show Steps p.tables e below (s₁.setTop (mkF m 0 #[.val (.ref o)] [])) _
    refine XS.aloadN X0.here hx rfl (hb hby d_prog_4_method_10_0) rfl rfl ?_
    show Steps p.tables e below (s₁.setTop (mkF m 1 #[.val (.ref o)] [(.ref o)])) _
    refine st1 _ ?_
    exact k_
  obtain ⟨fs, hr, hrun, hended, hW, hsame⟩ := X1.leave (v := (some (.ref x))) (fun h => by rw [Bd.returns] at h; cases h)
  refine ⟨_, _, S2 _ ((retOut X1 hx Bd.returns rfl (Or.inr (Or.inr (Or.inr (Or.inr ⟨rfl, rfl, rfl⟩)))) (hb hby d_prog_4_method_10_4) hr)), hrun, hended, _, _, rfl, ?_, ⟨_, rfl⟩, hW, hsame.mono (by decide) (by decide)⟩
  show Q_gto Z o x h0 n0 _ T1.heap _
  rw [e1]
  exact ⟨rfl, N0, rfl⟩
def Q_gve (Z : State) (o : Nat) (x : Nat) (h0 : Heap) (n0 : Nat) (v : Option Value) (h : Heap) (L : List Loc) : Prop := v = some (.ref x) ∧ Fr n0 L ∧ h = h0
theorem ef_gve (m : MethodId) (o : Nat) (x : Nat) : entryFrame m #[(.ref o)] 1 = (mkF m 0 #[.val (.ref o)] []) := by first | (simp [entryFrame, mkF, argsToLocals, Value.category]; done) | rfl
set_option maxRecDepth 65536 in
set_option maxHeartbeats 40000000 in
theorem rm_gve (l : Launch) (Z : State) (a0 : Array Value) (hw : ∀ d ∈ tables_1, d.before a0 Z = true) (ws : List Jvm.Cond) (o : Nat) (x : Nat) (h0 : Heap) (n0 : Nat) (Z0 : n0 ≤ h0.size) (O0 : Old Z n0 h0) (F1 : Fld Z h0 o "com/example/fetcher/client/Received" "versions" "Ljava/util/Set;" (.ref x)) :
    MetFree l (⟨"com/example/fetcher/client/Received", "versions", "()Ljava/util/Set;"⟩ : MethodName) (head1 (Jvm.Cond.code (⟨"com/example/fetcher/client/Received", "versions", "()Ljava/util/Set;"⟩ : MethodName) prog_4_method_11_code 1 (some (.object "java/util/Set")) :: ws) ({ frames := 0, cells := 0, slots := 0, locals := 0 } : Room)) (fun a_ U_ => a_ = #[(.ref o)] ∧ Z.Warmed39 U_.vm ∧ U_.heap = h0) (fun _ _ _ _ _ => True) (fun _ U_ o_ U'_ => ∃ v_ L_, o_ = .returned v_ ∧ Q_gve Z o x h0 n0 v_ U'_.heap L_ ∧ FrameEnd U_ o_ U'_ L_ ({ frames := 0, cells := 0, slots := 0, locals := 0 } : Room).cells ({ frames := 0, cells := 0, slots := 0, locals := 0 } : Room).slots) := by
  refine MetFree.of_bodySF (plainFor_of_name pn13) hisR ?_
  intro p e s m args below meth c s₁ Bd hml0 hP hK
  obtain ⟨rfl, hZ, hh⟩ := hP
  have hx := Bd.exec
  have hby := Bd.bytes
  have hml : c.maxLocals = 1 := hml0
  have hown : s.vm.findClass "com/example/fetcher/client/Received" = some m.cls := findClass_of_methodNamed Bd.named
  have hnm := (name_of_methodNamed Bd.named Bd.method).1
  have X0 : Stand p l e ({ frames := 0, cells := 0, slots := 0, locals := 0 } : Room) s m #[(.ref o)] below meth c s₁ [] 0 0 := Stand.of_body Bd
  have e0 : s₁.heap = h0 := by rw [← hh, Bd.state]; rfl
  have N0 := Fr.nil n0
  have oz : Z.heap.size = n0 := O0.1
  have S0 : ∀ t_, Steps p.tables e below (s₁.setTop (mkF m 0 #[.val (.ref o)] [])) t_ → Steps p.tables e below (s₁.setTop (entryFrame m #[(.ref o)] 1)) t_ := fun t_ k_ => castTop (ef_gve m o x) k_
  have lt_o : (o : Nat) < (h0.size : Nat) := F1.lt
  obtain ⟨T1, X1, e1, st1⟩ := getF X0 hx hZ hown (host := "") (Or.inl (tw102 hw)) Via.refl e0 F1 (g := (mkF m 1 #[.val (.ref o)] [(.ref o)])) rfl rfl (hb hby d_prog_4_method_11_1)
  have S2 : ∀ t_, Steps p.tables e below (T1.setTop (mkF m 4 #[.val (.ref o)] [(.ref x)])) t_ → Steps p.tables e below (s₁.setTop (entryFrame m #[(.ref o)] 1)) t_ := by
    intro t_ k_
    refine S0 t_ ?_
    show Steps p.tables e below (s₁.setTop (mkF m 0 #[.val (.ref o)] [])) _
    refine XS.aloadN X0.here hx rfl (hb hby d_prog_4_method_11_0) rfl rfl ?_
    show Steps p.tables e below (s₁.setTop (mkF m 1 #[.val (.ref o)] [(.ref o)])) _
    refine st1 _ ?_
    exact k_
  obtain ⟨fs, hr, hrun, hended, hW, hsame⟩ := X1.leave (v := (some (.ref x))) (fun h => by rw [Bd.returns] at h; cases h)
  refine ⟨_, _, S2 _ ((retOut X1 hx Bd.returns rfl (Or.inr (Or.inr (Or.inr (Or.inr ⟨rfl, rfl, rfl⟩)))) (hb hby d_prog_4_method_11_4) hr)), hrun, hended, _, _, rfl, ?_, ⟨_, rfl⟩, hW, hsame.mono (by decide) (by decide)⟩
  show Q_gve Z o x h0 n0 _ T1.heap _
  rw [e1]
  exact ⟨rfl, N0, rfl⟩
def Q_law (Z : State) (p1 : Int32) (p2 : Int32) (p3 : Int32) (p4 : Int32) (cz : Int32) (a_EMPTY_LIST : Nat) (a_EMPTY_SET : Nat) (a_DEFAULTCAPACITY_EMPTY_ELEMENTDATA : Nat) (a_EMPTY : Nat) (k_a_DEFAULTCAPACITY_EMPTY_ELEMENTDATA : ClassId) (mO : Nat) (h0 : Heap) (n0 : Nat) (v : Option Value) (h : Heap) (L : List Loc) : Prop := v = some (.int (1 : Int32)) ∧ Fr n0 L
theorem ef_law (m : MethodId) (p1 : Int32) (p2 : Int32) (p3 : Int32) (p4 : Int32) (cz : Int32) (a_EMPTY_LIST : Nat) (a_EMPTY_SET : Nat) (a_DEFAULTCAPACITY_EMPTY_ELEMENTDATA : Nat) (a_EMPTY : Nat) (k_a_DEFAULTCAPACITY_EMPTY_ELEMENTDATA : ClassId) (mO : Nat) : entryFrame m #[(.int p1), (.int p2), (.int p3), (.int p4)] maxLocals = (mkF m 0 #[.val (.int p1), .val (.int p2), .val (.int p3), .val (.int p4), .unset, .unset, .unset, .unset, .unset, .unset, .unset, .unset, .unset, .unset] []) := by first | (simp [entryFrame, mkF, argsToLocals, Value.category, maxLocals]; done) | rfl
set_option maxRecDepth 65536 in
set_option maxHeartbeats 40000000 in
theorem rm_law (l : Launch) (Z : State) (a0 : Array Value) (hw : ∀ d ∈ tables_1, d.before a0 Z = true) (ws : List Jvm.Cond) (p1 : Int32) (p2 : Int32) (p3 : Int32) (p4 : Int32) (cz : Int32) (a_EMPTY_LIST : Nat) (a_EMPTY_SET : Nat) (a_DEFAULTCAPACITY_EMPTY_ELEMENTDATA : Nat) (a_EMPTY : Nat) (k_a_DEFAULTCAPACITY_EMPTY_ELEMENTDATA : ClassId) (mO : Nat) (h0 : Heap) (n0 : Nat) (Z0 : n0 ≤ h0.size) (O0 : Old Z n0 h0) (Scz : Sta Z Z.heap "java/lang/String" "COMPACT_STRINGS" "Z" (.int cz)) (hcz : ¬ cz = (0 : Int32)) (S_EMPTY_LIST : Sta Z Z.heap "java/util/ImmutableCollections" "EMPTY_LIST" "Ljava/util/ImmutableCollections$ListN;" (.ref a_EMPTY_LIST)) (E_a_EMPTY_LIST : Exa Z Z.heap a_EMPTY_LIST "java/util/ImmutableCollections$ListN") (F_a_EMPTY_LIST_allowNulls : Fld Z Z.heap a_EMPTY_LIST "java/util/ImmutableCollections$ListN" "allowNulls" "Z" (.int (0 : Int32))) (S_EMPTY_SET : Sta Z Z.heap "java/util/ImmutableCollections" "EMPTY_SET" "Ljava/util/ImmutableCollections$SetN;" (.ref a_EMPTY_SET)) (E_a_EMPTY_SET : Exa Z Z.heap a_EMPTY_SET "java/util/ImmutableCollections$SetN") (S_DEFAULTCAPACITY_EMPTY_ELEMENTDATA : Sta Z Z.heap "java/util/ArrayList" "DEFAULTCAPACITY_EMPTY_ELEMENTDATA" "[Ljava/lang/Object;" (.ref a_DEFAULTCAPACITY_EMPTY_ELEMENTDATA)) (E_a_DEFAULTCAPACITY_EMPTY_ELEMENTDATA : Exa Z Z.heap a_DEFAULTCAPACITY_EMPTY_ELEMENTDATA "[Ljava/lang/Object;") (S_EMPTY : Sta Z Z.heap "java/util/ImmutableCollections" "EMPTY" "Ljava/lang/Object;" (.ref a_EMPTY)) (E_a_EMPTY : Exa Z Z.heap a_EMPTY "java/lang/Object") (A_a_DEFAULTCAPACITY_EMPTY_ELEMENTDATA : Arv Z Z.heap a_DEFAULTCAPACITY_EMPTY_ELEMENTDATA k_a_DEFAULTCAPACITY_EMPTY_ELEMENTDATA (.object "java/lang/Object") (0 : Int32) [] .null) (hmir : own_Mir Z "[Ljava/lang/Object;" mO) :
    MetFree l x (head1 (Jvm.Cond.code x code maxLocals ret :: ws) room_1) (fun a_ U_ => a_ = #[(.int p1), (.int p2), (.int p3), (.int p4)] ∧ Z.Warmed39 U_.vm ∧ U_.heap = h0) (fun _ _ _ _ _ => True) (fun _ U_ o_ U'_ => ∃ v_ L_, o_ = .returned v_ ∧ Q_law Z p1 p2 p3 p4 cz a_EMPTY_LIST a_EMPTY_SET a_DEFAULTCAPACITY_EMPTY_ELEMENTDATA a_EMPTY k_a_DEFAULTCAPACITY_EMPTY_ELEMENTDATA mO h0 n0 v_ U'_.heap L_ ∧ FrameEnd U_ o_ U'_ L_ room_1.cells room_1.slots) := by
  refine MetFree.of_bodySF (plainFor_of_name pn14) hisR ?_
  intro p e s m args below meth c s₁ Bd hml0 hP hK
  obtain ⟨rfl, hZ, hh⟩ := hP
  have hx := Bd.exec
  have hby := Bd.bytes
  have hml : c.maxLocals = 14 := hml0
  have hown : s.vm.findClass "com/example/fetcher/client/ReceivedIsErrorPinLaw" = some m.cls := findClass_of_methodNamed Bd.named
  have hnm := (name_of_methodNamed Bd.named Bd.method).1
  have X0 : Stand p l e room_1 s m #[(.int p1), (.int p2), (.int p3), (.int p4)] below meth c s₁ [] 0 0 := Stand.of_body Bd
  have e0 : s₁.heap = h0 := by rw [← hh, Bd.state]; rfl
  have N0 := Fr.nil n0
  have oz : Z.heap.size = n0 := O0.1
  have S0 : ∀ t_, Steps p.tables e below (s₁.setTop (mkF m 0 #[.val (.int p1), .val (.int p2), .val (.int p3), .val (.int p4), .unset, .unset, .unset, .unset, .unset, .unset, .unset, .unset, .unset, .unset] [])) t_ → Steps p.tables e below (s₁.setTop (entryFrame m #[(.int p1), (.int p2), (.int p3), (.int p4)] maxLocals)) t_ := fun t_ k_ => castTop (ef_law m p1 p2 p3 p4 cz a_EMPTY_LIST a_EMPTY_SET a_DEFAULTCAPACITY_EMPTY_ELEMENTDATA a_EMPTY k_a_DEFAULTCAPACITY_EMPTY_ELEMENTDATA mO) k_
  have lt_a_EMPTY_LIST : (a_EMPTY_LIST : Nat) < (Z.heap.size : Nat) := E_a_EMPTY_LIST.lt
  have lt_a_EMPTY_SET : (a_EMPTY_SET : Nat) < (Z.heap.size : Nat) := E_a_EMPTY_SET.lt
  have lt_a_DEFAULTCAPACITY_EMPTY_ELEMENTDATA : (a_DEFAULTCAPACITY_EMPTY_ELEMENTDATA : Nat) < (Z.heap.size : Nat) := E_a_DEFAULTCAPACITY_EMPTY_ELEMENTDATA.lt
  have lt_a_EMPTY : (a_EMPTY : Nat) < (Z.heap.size : Nat) := E_a_EMPTY.lt
  obtain ⟨c1, hc1⟩ : ∃ c, (p1 &&& (255 : Int32)) = c := ⟨_, rfl⟩
  have rc1 : ¬ c1 < 0 ∧ ¬ (255 : Int32) < c1 := hc1 ▸ own_c255 p1
  obtain ⟨c2, hc2⟩ : ∃ c, (((p1.toUInt32 >>> ((8 : Int32) &&& 31).toUInt32).toInt32) &&& (255 : Int32)) = c := ⟨_, rfl⟩
  have rc2 : ¬ c2 < 0 ∧ ¬ (255 : Int32) < c2 := hc2 ▸ own_c255 ((p1.toUInt32 >>> ((8 : Int32) &&& 31).toUInt32).toInt32)
  obtain ⟨c3, hc3⟩ : ∃ c, (p2 &&& (255 : Int32)) = c := ⟨_, rfl⟩
  have rc3 : ¬ c3 < 0 ∧ ¬ (255 : Int32) < c3 := hc3 ▸ own_c255 p2
  obtain ⟨c4, hc4⟩ : ∃ c, (p3 &&& (255 : Int32)) = c := ⟨_, rfl⟩
  have rc4 : ¬ c4 < 0 ∧ ¬ (255 : Int32) < c4 := hc4 ▸ own_c255 p3
  obtain ⟨T1, h1, X1, e1, E1, A1, D1, -, st1⟩ := newO X0 hx hZ hown (tw0 hw) (tw1 hw) (tw2 hw) e0 (g := (mkF m 0 #[.val (.int p1), .val (.int p2), .val (.int p3), .val (.int p4), .unset, .unset, .unset, .unset, .unset, .unset, .unset, .unset, .unset, .unset] [])) rfl (hb hby at_0) (by decide) (by decide)
  obtain ⟨b1, g1⟩ : ∃ z, z = h0.size := ⟨_, rfl⟩
  rw [← g1] at A1 D1 st1
  have lb1 : (b1 : Nat) < (h1.size : Nat) := A1.lt
  have z1 := E1.1
  have O1 := O0.ext E1
  have f2 : Fld Z h1 b1 "java/lang/String" "coder" "B" (.int (0 : Int32)) := D1 (Or.inr (tw27 hw)) (ty := .byte) (by decide)
  have f3 : Fld Z h1 b1 "java/lang/String" "value" "[B" .null := D1 (Or.inr (tw29 hw)) (ty := (.array .byte)) (by decide)
  obtain ⟨T4, h4, k4, X4, e4, E4, A4, st4⟩ := newP X1 hx hZ (aty := .char) (tw3 hw) e1 (g := (mkF m 5 #[.val (.int p1), .val (.int p2), .val (.int p3), .val (.int p4), .unset, .unset, .unset, .unset, .unset, .unset, .unset, .unset, .unset, .unset] [(.int (2 : Int32)), (.ref b1), (.ref b1)])) rfl (hb hby at_5) rfl (by decide) (cap := 2) (by decide) (by decide) (by decide) (by decide)
  obtain ⟨b4, g4⟩ : ∃ z, z = h1.size := ⟨_, rfl⟩
  rw [← g4] at A4 st4
  have lb4 : (b4 : Nat) < (h4.size : Nat) := A4.lt
  have v4 : Arv Z h4 b4 k4 .char (2 : Int32) [(.int (0 : Int32)), (.int (0 : Int32))] (.int (0 : Int32)) := (Arv.new A4 (by decide)).pad (pad_rep [] (.int (0 : Int32)) 2)
  have z4 := E4.1
  have O4 := O1.ext E4
  obtain ⟨cl5, Ar5, q5, Sz5, Nn5, H5, G5⟩ := id v4
  have hin5 : ¬ ((0 : Int32) < 0 ∨ cl5.slots.size ≤ ((0 : Int32)).toNatClampNeg) := inb_of Sz5 ⟨by decide, by decide⟩
  obtain ⟨T6, h6, X6, e6, W6, st6⟩ := stC X4 hx hZ e4 Ar5 (j := (0 : Int32)) hin5 (g := (mkF m 15 #[.val (.int p1), .val (.int p2), .val (.int p3), .val (.int p4), .unset, .unset, .unset, .unset, .unset, .unset, .unset, .unset, .unset, .unset] [(.int c1), (.int (0 : Int32)), (.ref b4), (.ref b4), (.ref b1), (.ref b1)])) rfl rfl (hb hby at_15)
  rw [(own_nc rc1.1 rc1.2)] at W6
  have z6 := W6.size
  have N6 := Fr.snoc X6 N0 (by omega)
  have O6 := O4.wr W6 (by omega)
  have v6 : Arv Z h6 b4 k4 .char (2 : Int32) [(.int c1), (.int (0 : Int32))] (.int (0 : Int32)) := Arv.set Ar5 q5 Sz5 Nn5 H5 G5 (by rw [← (own_nc rc1.1 rc1.2)]; exact (fits_nar_char _)) W6 0 rfl (Nat.le_of_ble_eq_true rfl)
  obtain ⟨cl7, Ar7, q7, Sz7, Nn7, H7, G7⟩ := id v6
  have hin7 : ¬ ((1 : Int32) < 0 ∨ cl7.slots.size ≤ ((1 : Int32)).toNatClampNeg) := inb_of Sz7 ⟨by decide, by decide⟩
  obtain ⟨T8, h8, X8, e8, W8, st8⟩ := stC X6 hx hZ e6 Ar7 (j := (1 : Int32)) hin7 (g := (mkF m 27 #[.val (.int p1), .val (.int p2), .val (.int p3), .val (.int p4), .unset, .unset, .unset, .unset, .unset, .unset, .unset, .unset, .unset, .unset] [(.int c2), (.int (1 : Int32)), (.ref b4), (.ref b4), (.ref b1), (.ref b1)])) rfl rfl (hb hby at_27)
  rw [(own_nc rc2.1 rc2.2)] at W8
  have z8 := W8.size
  have N8 := Fr.snoc X8 N6 (by omega)
  have O8 := O6.wr W8 (by omega)
  have v8 : Arv Z h8 b4 k4 .char (2 : Int32) [(.int c1), (.int c2)] (.int (0 : Int32)) := Arv.set Ar7 q7 Sz7 Nn7 H7 G7 (by rw [← (own_nc rc2.1 rc2.2)]; exact (fits_nar_char _)) W8 1 rfl (Nat.le_of_ble_eq_true rfl)
  have hp9 : ∀ c ∈ ([c1, c2] : List Int32), ¬ c < 0 ∧ ¬ (255 : Int32) < c := by
    intro c hc
    simp only [List.mem_cons, List.not_mem_nil, or_false] at hc
    rcases hc with rfl | rfl
    · exact rc1
    · exact rc2
  have f10 := (((A1.ext E4).wr W6).wr W8)
  have f11 := (((f3.ext E4).other W6 (Or.inl (by omega : (b1 : Nat) ≠ (b4 : Nat)))).other W8 (Or.inl (by omega : (b1 : Nat) ≠ (b4 : Nat))))
  have f12 := (((f2.ext E4).other W6 (Or.inl (by omega : (b1 : Nat) ≠ (b4 : Nat)))).other W8 (Or.inl (by omega : (b1 : Nat) ≠ (b4 : Nat))))
  obtain ⟨_, _, ⟨T13, L13, k13, n13⟩, -, X13, ⟨Lc13, hQ13, l13, y13, z13⟩, st13⟩ := X8.specialBack hx (y := (⟨"java/lang/String", "<init>", "([C)V"⟩ : MethodName)) rfl hown (mvT hZ (tw4 hw)) (mvT hZ (tw5 hw)) (mvT hZ (tw6 hw)) (by decide) (StrChars.Road.backV (W := 1) hZ (own_hws hw) (kI := 4) (tw1 hw) (cs := ([c1, c2] : List Int32)) (bs := ([c1, c2] : List Int32).map (fun c => c.toInt8.toInt32)) (n := 2) (n0 := n0) (x := b1) (by omega) (by omega) f10 f11 f12 v8 (Scz.ext O8.2) hcz rfl rfl (by decide) (by decide) hp9 rfl (by decide) (by decide)) (g := (mkF m 28 #[.val (.int p1), .val (.int p2), .val (.int p3), .val (.int p4), .unset, .unset, .unset, .unset, .unset, .unset, .unset, .unset, .unset, .unset] [(.ref b4), (.ref b1), (.ref b1)])) rfl (by rw [hml]; rfl) (Steps.refl _) (a := b1) (argsL := [(.ref b4)]) (rest := [(.ref b1)]) (lenOf pd19 rfl) rfl (by show 2 * 0 + _ ≤ _; exact Nat.le_of_eq rfl) (hb hby at_28) (fun _ _ => ⟨rfl, e8, (by decide : 2 + 1 ≤ _), (by decide : 6 + 2 ≤ _)⟩)
  dsimp only [Pt.U, Pt.locs, Pt.cells, Pt.slots] at X13 l13 y13 z13 st13 hQ13
  subst l13 y13 z13
  obtain ⟨rfl, N13q, Kq13, Ea13, Ec13, t13, kb13, ga13, gb13, gc13, Ev13, Et13⟩ := hQ13
  have N13 := Fr.app N8 N13q
  have z13 := Kq13.1
  have O13 := O8.keep Kq13 (allS (by omega) all0)
  have lq13 : (b1 : Nat) < (T13.heap.size : Nat) := Ea13.lt
  have lr13 : (t13 : Nat) < (T13.heap.size : Nat) := Et13.lt
  have gd13 : (h8.size : Nat) ≤ (t13 : Nat) := gb13
  obtain ⟨_, _, ⟨T14, L14, k14, n14⟩, -, X14, ⟨Lc14, hQ14, l14, y14, z14⟩, st14⟩ := Jvm.LawKit.callS X13 hx (y := (⟨"java/lang/String", "valueOf", "(C)Ljava/lang/String;"⟩ : MethodName)) hown (mvT hZ (tw30 hw)) (mvT hZ (tw31 hw)) (mvT hZ (tw2 hw)) (mvT hZ (tw32 hw)) (by decide) (backOf (W := 0) (rm_val l Z a0 hw [] c3 cz T13.heap n0 (by omega) O13 rc3 Scz hcz) hZ (tw32 hw) (tw2 hw) (by decide) (by decide)) (g := (mkF m 39 #[.val (.int p1), .val (.int p2), .val (.int p3), .val (.int p4), .val (.ref b1), .unset, .unset, .unset, .unset, .unset, .unset, .unset, .unset, .unset] [(.int c3)])) rfl (by rw [hml]; rfl) (argsL := [(.int c3)]) (rest := []) (lenOf pd20 rfl) rfl (by show 2 * 0 + _ ≤ _; exact Nat.le_of_eq rfl) (hb hby at_39) (fun _ _ => ⟨rfl, rfl, (by decide : 3 + 2 ≤ _), (by decide : 8 + 5 ≤ _)⟩)
  dsimp only [Pt.U, Pt.locs, Pt.cells, Pt.slots] at X14 l14 y14 z14 st14 hQ14
  subst l14 y14 z14
  obtain ⟨b15, t16, kb17, rfl, N14q, Kq14, p14_0, p14_1, p14_2, p14_3, p14_4⟩ := hQ14
  have N14 := Fr.app N13 N14q
  have z14 := Kq14.1
  have O14 := O13.keep Kq14 all0
  have lq18 : (b15 : Nat) < (T14.heap.size : Nat) := p14_0.lt
  have lq19 : (b15 : Nat) < (T14.heap.size : Nat) := p14_1.lt
  have lq20 : (b15 : Nat) < (T14.heap.size : Nat) := p14_2.lt
  have lq21 : (t16 : Nat) < (T14.heap.size : Nat) := p14_3.lt
  have hp22 : ∀ c ∈ ([c3] : List Int32), ¬ c < 0 ∧ ¬ (255 : Int32) < c := fun q hq => by cases List.mem_singleton.mp hq; exact rc3
  have bq14 := p14_4
  obtain ⟨_, _, ⟨T23, L23, k23, n23⟩, -, X23, ⟨Lc23, hQ23, l23, y23, z23⟩, st23⟩ := Jvm.LawKit.callS X14 hx (y := (⟨"java/lang/String", "valueOf", "(C)Ljava/lang/String;"⟩ : MethodName)) hown (mvT hZ (tw30 hw)) (mvT hZ (tw31 hw)) (mvT hZ (tw2 hw)) (mvT hZ (tw32 hw)) (by decide) (backOf (W := 0) (rm_val l Z a0 hw [] c4 cz T14.heap n0 (by omega) O14 rc4 Scz hcz) hZ (tw32 hw) (tw2 hw) (by decide) (by decide)) (g := (mkF m 50 #[.val (.int p1), .val (.int p2), .val (.int p3), .val (.int p4), .val (.ref b1), .val (.ref b15), .unset, .unset, .unset, .unset, .unset, .unset, .unset, .unset] [(.int c4)])) rfl (by rw [hml]; rfl) (argsL := [(.int c4)]) (rest := []) (lenOf pd20 rfl) rfl (by show 2 * 0 + _ ≤ _; exact Nat.le_of_eq rfl) (hb hby at_50) (fun _ _ => ⟨rfl, rfl, (by decide : 5 + 2 ≤ _), (by decide : 13 + 5 ≤ _)⟩)
  dsimp only [Pt.U, Pt.locs, Pt.cells, Pt.slots] at X23 l23 y23 z23 st23 hQ23
  subst l23 y23 z23
  obtain ⟨b24, t25, kb26, rfl, N23q, Kq23, p23_0, p23_1, p23_2, p23_3, p23_4⟩ := hQ23
  have N23 := Fr.app N14 N23q
  have z23 := Kq23.1
  have O23 := O14.keep Kq23 all0
  have lq27 : (b24 : Nat) < (T23.heap.size : Nat) := p23_0.lt
  have lq28 : (b24 : Nat) < (T23.heap.size : Nat) := p23_1.lt
  have lq29 : (b24 : Nat) < (T23.heap.size : Nat) := p23_2.lt
  have lq30 : (t25 : Nat) < (T23.heap.size : Nat) := p23_3.lt
  have hp31 : ∀ c ∈ ([c4] : List Int32), ¬ c < 0 ∧ ¬ (255 : Int32) < c := fun q hq => by cases List.mem_singleton.mp hq; exact rc4
  have bq23 := p23_4
  have S32 : ∀ t_, Steps p.tables e below (T23.setTop (mkF m 58 #[.val (.int p1), .val (.int p2), .val (.int p3), .val (.int p4), .val (.ref b1), .val (.ref b15), .val (.ref b24), .unset, .unset, .unset, .unset, .unset, .unset, .unset] [(.int (p4 &&& (1 : Int32)))])) t_ → Steps p.tables e below (s₁.setTop (entryFrame m #[(.int p1), (.int p2), (.int p3), (.int p4)] maxLocals)) t_ := by
    intro t_ k_
    refine S0 t_ ?_
    show Steps p.tables e below (s₁.setTop (mkF m 0 #[.val (.int p1), .val (.int p2), .val (.int p3), .val (.int p4), .unset, .unset, .unset, .unset, .unset, .unset, .unset, .unset, .unset, .unset] [])) _
    refine st1 _ ?_
    show Steps p.tables e below (T1.setTop (mkF m 3 #[.val (.int p1), .val (.int p2), .val (.int p3), .val (.int p4), .unset, .unset, .unset, .unset, .unset, .unset, .unset, .unset, .unset, .unset] [(.ref b1)])) _
    refine XS.dup X1.here hx rfl (hb hby at_3) rfl rfl ?_
    show Steps p.tables e below (T1.setTop (mkF m 4 #[.val (.int p1), .val (.int p2), .val (.int p3), .val (.int p4), .unset, .unset, .unset, .unset, .unset, .unset, .unset, .unset, .unset, .unset] [(.ref b1), (.ref b1)])) _
    refine XT.iconstV X1.here hx rfl (2 : Int32) (hb hby at_4) (by decide) ?_
    show Steps p.tables e below (T1.setTop (mkF m 5 #[.val (.int p1), .val (.int p2), .val (.int p3), .val (.int p4), .unset, .unset, .unset, .unset, .unset, .unset, .unset, .unset, .unset, .unset] [(.int (2 : Int32)), (.ref b1), (.ref b1)])) _
    refine st4 _ ?_
    show Steps p.tables e below (T4.setTop (mkF m 7 #[.val (.int p1), .val (.int p2), .val (.int p3), .val (.int p4), .unset, .unset, .unset, .unset, .unset, .unset, .unset, .unset, .unset, .unset] [(.ref b4), (.ref b1), (.ref b1)])) _
    refine XS.dup X4.here hx rfl (hb hby at_7) rfl rfl ?_
    show Steps p.tables e below (T4.setTop (mkF m 8 #[.val (.int p1), .val (.int p2), .val (.int p3), .val (.int p4), .unset, .unset, .unset, .unset, .unset, .unset, .unset, .unset, .unset, .unset] [(.ref b4), (.ref b4), (.ref b1), (.ref b1)])) _
    refine XT.iconstV X4.here hx rfl (0 : Int32) (hb hby at_8) (by decide) ?_
    show Steps p.tables e below (T4.setTop (mkF m 9 #[.val (.int p1), .val (.int p2), .val (.int p3), .val (.int p4), .unset, .unset, .unset, .unset, .unset, .unset, .unset, .unset, .unset, .unset] [(.int (0 : Int32)), (.ref b4), (.ref b4), (.ref b1), (.ref b1)])) _
    refine XS.iloadN X4.here hx rfl (hb hby at_9) rfl ?_
    show Steps p.tables e below (T4.setTop (mkF m 10 #[.val (.int p1), .val (.int p2), .val (.int p3), .val (.int p4), .unset, .unset, .unset, .unset, .unset, .unset, .unset, .unset, .unset, .unset] [(.int p1), (.int (0 : Int32)), (.ref b4), (.ref b4), (.ref b1), (.ref b1)])) _
    refine XT.sipushV X4.here hx rfl (255 : Int32) (hb hby at_10) (by decide) ?_
    show Steps p.tables e below (T4.setTop (mkF m 13 #[.val (.int p1), .val (.int p2), .val (.int p3), .val (.int p4), .unset, .unset, .unset, .unset, .unset, .unset, .unset, .unset, .unset, .unset] [(.int (255 : Int32)), (.int p1), (.int (0 : Int32)), (.ref b4), (.ref b4), (.ref b1), (.ref b1)])) _
    refine own_op_iand X4.here hx rfl (hb hby at_13) rfl (z := c1) hc1 ?_
    show Steps p.tables e below (T4.setTop (mkF m 14 #[.val (.int p1), .val (.int p2), .val (.int p3), .val (.int p4), .unset, .unset, .unset, .unset, .unset, .unset, .unset, .unset, .unset, .unset] [(.int c1), (.int (0 : Int32)), (.ref b4), (.ref b4), (.ref b1), (.ref b1)])) _
    refine own_op_i2c X4.here hx rfl (hb hby at_14) rfl (z := c1) (own_i2c rc1.1 rc1.2) ?_
    show Steps p.tables e below (T4.setTop (mkF m 15 #[.val (.int p1), .val (.int p2), .val (.int p3), .val (.int p4), .unset, .unset, .unset, .unset, .unset, .unset, .unset, .unset, .unset, .unset] [(.int c1), (.int (0 : Int32)), (.ref b4), (.ref b4), (.ref b1), (.ref b1)])) _
    refine st6 _ ?_
    show Steps p.tables e below (T6.setTop (mkF m 16 #[.val (.int p1), .val (.int p2), .val (.int p3), .val (.int p4), .unset, .unset, .unset, .unset, .unset, .unset, .unset, .unset, .unset, .unset] [(.ref b4), (.ref b1), (.ref b1)])) _
    refine XS.dup X6.here hx rfl (hb hby at_16) rfl rfl ?_
    show Steps p.tables e below (T6.setTop (mkF m 17 #[.val (.int p1), .val (.int p2), .val (.int p3), .val (.int p4), .unset, .unset, .unset, .unset, .unset, .unset, .unset, .unset, .unset, .unset] [(.ref b4), (.ref b4), (.ref b1), (.ref b1)])) _
    refine XT.iconstV X6.here hx rfl (1 : Int32) (hb hby at_17) (by decide) ?_
    show Steps p.tables e below (T6.setTop (mkF m 18 #[.val (.int p1), .val (.int p2), .val (.int p3), .val (.int p4), .unset, .unset, .unset, .unset, .unset, .unset, .unset, .unset, .unset, .unset] [(.int (1 : Int32)), (.ref b4), (.ref b4), (.ref b1), (.ref b1)])) _
    refine XS.iloadN X6.here hx rfl (hb hby at_18) rfl ?_
    show Steps p.tables e below (T6.setTop (mkF m 19 #[.val (.int p1), .val (.int p2), .val (.int p3), .val (.int p4), .unset, .unset, .unset, .unset, .unset, .unset, .unset, .unset, .unset, .unset] [(.int p1), (.int (1 : Int32)), (.ref b4), (.ref b4), (.ref b1), (.ref b1)])) _
    refine XT.bipushV X6.here hx rfl (8 : Int32) (hb hby at_19) (by decide) ?_
    show Steps p.tables e below (T6.setTop (mkF m 21 #[.val (.int p1), .val (.int p2), .val (.int p3), .val (.int p4), .unset, .unset, .unset, .unset, .unset, .unset, .unset, .unset, .unset, .unset] [(.int (8 : Int32)), (.int p1), (.int (1 : Int32)), (.ref b4), (.ref b4), (.ref b1), (.ref b1)])) _
    refine own_op_iushr X6.here hx rfl (hb hby at_21) rfl (z := ((p1.toUInt32 >>> ((8 : Int32) &&& 31).toUInt32).toInt32)) rfl ?_
    show Steps p.tables e below (T6.setTop (mkF m 22 #[.val (.int p1), .val (.int p2), .val (.int p3), .val (.int p4), .unset, .unset, .unset, .unset, .unset, .unset, .unset, .unset, .unset, .unset] [(.int ((p1.toUInt32 >>> ((8 : Int32) &&& 31).toUInt32).toInt32)), (.int (1 : Int32)), (.ref b4), (.ref b4), (.ref b1), (.ref b1)])) _
    refine XT.sipushV X6.here hx rfl (255 : Int32) (hb hby at_22) (by decide) ?_
    show Steps p.tables e below (T6.setTop (mkF m 25 #[.val (.int p1), .val (.int p2), .val (.int p3), .val (.int p4), .unset, .unset, .unset, .unset, .unset, .unset, .unset, .unset, .unset, .unset] [(.int (255 : Int32)), (.int ((p1.toUInt32 >>> ((8 : Int32) &&& 31).toUInt32).toInt32)), (.int (1 : Int32)), (.ref b4), (.ref b4), (.ref b1), (.ref b1)])) _
    refine own_op_iand X6.here hx rfl (hb hby at_25) rfl (z := c2) hc2 ?_
    show Steps p.tables e below (T6.setTop (mkF m 26 #[.val (.int p1), .val (.int p2), .val (.int p3), .val (.int p4), .unset, .unset, .unset, .unset, .unset, .unset, .unset, .unset, .unset, .unset] [(.int c2), (.int (1 : Int32)), (.ref b4), (.ref b4), (.ref b1), (.ref b1)])) _
    refine own_op_i2c X6.here hx rfl (hb hby at_26) rfl (z := c2) (own_i2c rc2.1 rc2.2) ?_
    show Steps p.tables e below (T6.setTop (mkF m 27 #[.val (.int p1), .val (.int p2), .val (.int p3), .val (.int p4), .unset, .unset, .unset, .unset, .unset, .unset, .unset, .unset, .unset, .unset] [(.int c2), (.int (1 : Int32)), (.ref b4), (.ref b4), (.ref b1), (.ref b1)])) _
    refine st8 _ ?_
    show Steps p.tables e below (T8.setTop (mkF m 28 #[.val (.int p1), .val (.int p2), .val (.int p3), .val (.int p4), .unset, .unset, .unset, .unset, .unset, .unset, .unset, .unset, .unset, .unset] [(.ref b4), (.ref b1), (.ref b1)])) _
    refine st13.trans ?_
    show Steps p.tables e below (T13.setTop (mkF m 31 #[.val (.int p1), .val (.int p2), .val (.int p3), .val (.int p4), .unset, .unset, .unset, .unset, .unset, .unset, .unset, .unset, .unset, .unset] [(.ref b1)])) _
    refine XS.astore X13.here hx rfl (hb hby at_31) rfl rfl (l' := #[.val (.int p1), .val (.int p2), .val (.int p3), .val (.int p4), .val (.ref b1), .unset, .unset, .unset, .unset, .unset, .unset, .unset, .unset, .unset]) rfl ?_
    show Steps p.tables e below (T13.setTop (mkF m 33 #[.val (.int p1), .val (.int p2), .val (.int p3), .val (.int p4), .val (.ref b1), .unset, .unset, .unset, .unset, .unset, .unset, .unset, .unset, .unset] [])) _
    refine XS.iloadN X13.here hx rfl (hb hby at_33) rfl ?_
    show Steps p.tables e below (T13.setTop (mkF m 34 #[.val (.int p1), .val (.int p2), .val (.int p3), .val (.int p4), .val (.ref b1), .unset, .unset, .unset, .unset, .unset, .unset, .unset, .unset, .unset] [(.int p2)])) _
    refine XT.sipushV X13.here hx rfl (255 : Int32) (hb hby at_34) (by decide) ?_
    show Steps p.tables e below (T13.setTop (mkF m 37 #[.val (.int p1), .val (.int p2), .val (.int p3), .val (.int p4), .val (.ref b1), .unset, .unset, .unset, .unset, .unset, .unset, .unset, .unset, .unset] [(.int (255 : Int32)), (.int p2)])) _
    refine own_op_iand X13.here hx rfl (hb hby at_37) rfl (z := c3) hc3 ?_
    show Steps p.tables e below (T13.setTop (mkF m 38 #[.val (.int p1), .val (.int p2), .val (.int p3), .val (.int p4), .val (.ref b1), .unset, .unset, .unset, .unset, .unset, .unset, .unset, .unset, .unset] [(.int c3)])) _
    refine own_op_i2c X13.here hx rfl (hb hby at_38) rfl (z := c3) (own_i2c rc3.1 rc3.2) ?_
    show Steps p.tables e below (T13.setTop (mkF m 39 #[.val (.int p1), .val (.int p2), .val (.int p3), .val (.int p4), .val (.ref b1), .unset, .unset, .unset, .unset, .unset, .unset, .unset, .unset, .unset] [(.int c3)])) _
    refine st14 _ ?_
    show Steps p.tables e below (T14.setTop (mkF m 42 #[.val (.int p1), .val (.int p2), .val (.int p3), .val (.int p4), .val (.ref b1), .unset, .unset, .unset, .unset, .unset, .unset, .unset, .unset, .unset] [(.ref b15)])) _
    refine XS.astore X14.here hx rfl (hb hby at_42) rfl rfl (l' := #[.val (.int p1), .val (.int p2), .val (.int p3), .val (.int p4), .val (.ref b1), .val (.ref b15), .unset, .unset, .unset, .unset, .unset, .unset, .unset, .unset]) rfl ?_
    show Steps p.tables e below (T14.setTop (mkF m 44 #[.val (.int p1), .val (.int p2), .val (.int p3), .val (.int p4), .val (.ref b1), .val (.ref b15), .unset, .unset, .unset, .unset, .unset, .unset, .unset, .unset] [])) _
    refine XS.iloadN X14.here hx rfl (hb hby at_44) rfl ?_
    show Steps p.tables e below (T14.setTop (mkF m 45 #[.val (.int p1), .val (.int p2), .val (.int p3), .val (.int p4), .val (.ref b1), .val (.ref b15), .unset, .unset, .unset, .unset, .unset, .unset, .unset, .unset] [(.int p3)])) _
    refine XT.sipushV X14.here hx rfl (255 : Int32) (hb hby at_45) (by decide) ?_
    show Steps p.tables e below (T14.setTop (mkF m 48 #[.val (.int p1), .val (.int p2), .val (.int p3), .val (.int p4), .val (.ref b1), .val (.ref b15), .unset, .unset, .unset, .unset, .unset, .unset, .unset, .unset] [(.int (255 : Int32)), (.int p3)])) _
    refine own_op_iand X14.here hx rfl (hb hby at_48) rfl (z := c4) hc4 ?_
    show Steps p.tables e below (T14.setTop (mkF m 49 #[.val (.int p1), .val (.int p2), .val (.int p3), .val (.int p4), .val (.ref b1), .val (.ref b15), .unset, .unset, .unset, .unset, .unset, .unset, .unset, .unset] [(.int c4)])) _
    refine own_op_i2c X14.here hx rfl (hb hby at_49) rfl (z := c4) (own_i2c rc4.1 rc4.2) ?_
    show Steps p.tables e below (T14.setTop (mkF m 50 #[.val (.int p1), .val (.int p2), .val (.int p3), .val (.int p4), .val (.ref b1), .val (.ref b15), .unset, .unset, .unset, .unset, .unset, .unset, .unset, .unset] [(.int c4)])) _
    refine st23 _ ?_
    show Steps p.tables e below (T23.setTop (mkF m 53 #[.val (.int p1), .val (.int p2), .val (.int p3), .val (.int p4), .val (.ref b1), .val (.ref b15), .unset, .unset, .unset, .unset, .unset, .unset, .unset, .unset] [(.ref b24)])) _
    refine XS.astore X23.here hx rfl (hb hby at_53) rfl rfl (l' := #[.val (.int p1), .val (.int p2), .val (.int p3), .val (.int p4), .val (.ref b1), .val (.ref b15), .val (.ref b24), .unset, .unset, .unset, .unset, .unset, .unset, .unset]) rfl ?_
    show Steps p.tables e below (T23.setTop (mkF m 55 #[.val (.int p1), .val (.int p2), .val (.int p3), .val (.int p4), .val (.ref b1), .val (.ref b15), .val (.ref b24), .unset, .unset, .unset, .unset, .unset, .unset, .unset] [])) _
    refine XS.iloadN X23.here hx rfl (hb hby at_55) rfl ?_
    show Steps p.tables e below (T23.setTop (mkF m 56 #[.val (.int p1), .val (.int p2), .val (.int p3), .val (.int p4), .val (.ref b1), .val (.ref b15), .val (.ref b24), .unset, .unset, .unset, .unset, .unset, .unset, .unset] [(.int p4)])) _
    refine XT.iconstV X23.here hx rfl (1 : Int32) (hb hby at_56) (by decide) ?_
    show Steps p.tables e below (T23.setTop (mkF m 57 #[.val (.int p1), .val (.int p2), .val (.int p3), .val (.int p4), .val (.ref b1), .val (.ref b15), .val (.ref b24), .unset, .unset, .unset, .unset, .unset, .unset, .unset] [(.int (1 : Int32)), (.int p4)])) _
    refine own_op_iand X23.here hx rfl (hb hby at_57) rfl (z := (p4 &&& (1 : Int32))) rfl ?_
    exact k_
  obtain ⟨vr33, d33, S33⟩ : ∃ vr33 : Value, (((p4 &&& (1 : Int32)) = (0 : Int32) ∧ vr33 = .null) ∨ (¬ (p4 &&& (1 : Int32)) = (0 : Int32) ∧ vr33 = (.ref b1))) ∧ ∀ t_, Steps p.tables e below (T23.setTop (mkF m 67 #[.val (.int p1), .val (.int p2), .val (.int p3), .val (.int p4), .val (.ref b1), .val (.ref b15), .val (.ref b24), .unset, .unset, .unset, .unset, .unset, .unset, .unset] [vr33])) t_ → Steps p.tables e below (s₁.setTop (entryFrame m #[(.int p1), (.int p2), (.int p3), (.int p4)] maxLocals)) t_ := by
    by_cases cnd33 : (p4 &&& (1 : Int32)) = (0 : Int32)
    · refine ⟨.null, Or.inl ⟨cnd33, rfl⟩, fun t_ k_ => S32 t_ ?_⟩
      show Steps p.tables e below (T23.setTop (mkF m 58 #[.val (.int p1), .val (.int p2), .val (.int p3), .val (.int p4), .val (.ref b1), .val (.ref b15), .val (.ref b24), .unset, .unset, .unset, .unset, .unset, .unset, .unset] [(.int (p4 &&& (1 : Int32)))])) _
      refine XS.ifYes X23.here hx rfl (pc0 := 58) (pc' := 66) rfl (hb hby at_58) rfl ((if0 _ _).trans (teq (cnd33 : (p4 &&& (1 : Int32)) = (0 : Int32))).1) (by decide) (by decide) ?_
      show Steps p.tables e below (T23.setTop (mkF m 66 #[.val (.int p1), .val (.int p2), .val (.int p3), .val (.int p4), .val (.ref b1), .val (.ref b15), .val (.ref b24), .unset, .unset, .unset, .unset, .unset, .unset, .unset] [])) _
      refine XS.aconstNull X23.here hx rfl (hb hby at_66) ?_
      exact k_
    · refine ⟨(.ref b1), Or.inr ⟨cnd33, rfl⟩, fun t_ k_ => S32 t_ ?_⟩
      show Steps p.tables e below (T23.setTop (mkF m 58 #[.val (.int p1), .val (.int p2), .val (.int p3), .val (.int p4), .val (.ref b1), .val (.ref b15), .val (.ref b24), .unset, .unset, .unset, .unset, .unset, .unset, .unset] [(.int (p4 &&& (1 : Int32)))])) _
      refine XS.ifNo X23.here hx rfl (hb hby at_58) rfl ((if0 _ _).trans (feq (cnd33 : ¬ (p4 &&& (1 : Int32)) = (0 : Int32))).1) ?_
      show Steps p.tables e below (T23.setTop (mkF m 61 #[.val (.int p1), .val (.int p2), .val (.int p3), .val (.int p4), .val (.ref b1), .val (.ref b15), .val (.ref b24), .unset, .unset, .unset, .unset, .unset, .unset, .unset] [])) _
      refine XS.aload X23.here hx rfl (hb hby at_61) rfl rfl ?_
      show Steps p.tables e below (T23.setTop (mkF m 63 #[.val (.int p1), .val (.int p2), .val (.int p3), .val (.int p4), .val (.ref b1), .val (.ref b15), .val (.ref b24), .unset, .unset, .unset, .unset, .unset, .unset, .unset] [(.ref b1)])) _
      refine XS.goto X23.here hx rfl (pc0 := 63) (pc' := 67) rfl (hb hby at_63) (by decide) (by decide) ?_
      exact k_
  have i33 : vr33.isRef = true := by rcases d33 with ⟨-, rfl⟩ | ⟨-, rfl⟩ <;> rfl
  have S34 : ∀ t_, Steps p.tables e below (T23.setTop (mkF m 72 #[.val (.int p1), .val (.int p2), .val (.int p3), .val (.int p4), .val (.ref b1), .val (.ref b15), .val (.ref b24), .val vr33, .unset, .unset, .unset, .unset, .unset, .unset] [(.int (p4 &&& (2 : Int32)))])) t_ → Steps p.tables e below (s₁.setTop (entryFrame m #[(.int p1), (.int p2), (.int p3), (.int p4)] maxLocals)) t_ := by
    intro t_ k_
    refine S33 t_ ?_
    show Steps p.tables e below (T23.setTop (mkF m 67 #[.val (.int p1), .val (.int p2), .val (.int p3), .val (.int p4), .val (.ref b1), .val (.ref b15), .val (.ref b24), .unset, .unset, .unset, .unset, .unset, .unset, .unset] [vr33])) _
    refine XS.astore X23.here hx rfl (hb hby at_67) rfl i33 (l' := #[.val (.int p1), .val (.int p2), .val (.int p3), .val (.int p4), .val (.ref b1), .val (.ref b15), .val (.ref b24), .val vr33, .unset, .unset, .unset, .unset, .unset, .unset]) (by rcases ref_cases i33 with q | ⟨_, q⟩ <;> subst q <;> rfl) ?_
    show Steps p.tables e below (T23.setTop (mkF m 69 #[.val (.int p1), .val (.int p2), .val (.int p3), .val (.int p4), .val (.ref b1), .val (.ref b15), .val (.ref b24), .val vr33, .unset, .unset, .unset, .unset, .unset, .unset] [])) _
    refine XS.iloadN X23.here hx rfl (hb hby at_69) rfl ?_
    show Steps p.tables e below (T23.setTop (mkF m 70 #[.val (.int p1), .val (.int p2), .val (.int p3), .val (.int p4), .val (.ref b1), .val (.ref b15), .val (.ref b24), .val vr33, .unset, .unset, .unset, .unset, .unset, .unset] [(.int p4)])) _
    refine XT.iconstV X23.here hx rfl (2 : Int32) (hb hby at_70) (by decide) ?_
    show Steps p.tables e below (T23.setTop (mkF m 71 #[.val (.int p1), .val (.int p2), .val (.int p3), .val (.int p4), .val (.ref b1), .val (.ref b15), .val (.ref b24), .val vr33, .unset, .unset, .unset, .unset, .unset, .unset] [(.int (2 : Int32)), (.int p4)])) _
    refine own_op_iand X23.here hx rfl (hb hby at_71) rfl (z := (p4 &&& (2 : Int32))) rfl ?_
    exact k_
  by_cases cnd35 : (p4 &&& (2 : Int32)) = (0 : Int32)
  · -- (p4 &&& (2 : Int32)) = (0 : Int32)
    have S36 : ∀ t_, Steps p.tables e below (T23.setTop (mkF m 86 #[.val (.int p1), .val (.int p2), .val (.int p3), .val (.int p4), .val (.ref b1), .val (.ref b15), .val (.ref b24), .val vr33, .val .null, .unset, .unset, .unset, .unset, .unset] [(.int (p4 &&& (4 : Int32)))])) t_ → Steps p.tables e below (s₁.setTop (entryFrame m #[(.int p1), (.int p2), (.int p3), (.int p4)] maxLocals)) t_ := by
      intro t_ k_
      refine S34 t_ ?_
      show Steps p.tables e below (T23.setTop (mkF m 72 #[.val (.int p1), .val (.int p2), .val (.int p3), .val (.int p4), .val (.ref b1), .val (.ref b15), .val (.ref b24), .val vr33, .unset, .unset, .unset, .unset, .unset, .unset] [(.int (p4 &&& (2 : Int32)))])) _
      refine XS.ifYes X23.here hx rfl (pc0 := 72) (pc' := 80) rfl (hb hby at_72) rfl ((if0 _ _).trans (teq cnd35).1) (by decide) (by decide) ?_
      show Steps p.tables e below (T23.setTop (mkF m 80 #[.val (.int p1), .val (.int p2), .val (.int p3), .val (.int p4), .val (.ref b1), .val (.ref b15), .val (.ref b24), .val vr33, .unset, .unset, .unset, .unset, .unset, .unset] [])) _
      refine XS.aconstNull X23.here hx rfl (hb hby at_80) ?_
      show Steps p.tables e below (T23.setTop (mkF m 81 #[.val (.int p1), .val (.int p2), .val (.int p3), .val (.int p4), .val (.ref b1), .val (.ref b15), .val (.ref b24), .val vr33, .unset, .unset, .unset, .unset, .unset, .unset] [.null])) _
      refine XS.astore X23.here hx rfl (hb hby at_81) rfl rfl (l' := #[.val (.int p1), .val (.int p2), .val (.int p3), .val (.int p4), .val (.ref b1), .val (.ref b15), .val (.ref b24), .val vr33, .val .null, .unset, .unset, .unset, .unset, .unset]) rfl ?_
      show Steps p.tables e below (T23.setTop (mkF m 83 #[.val (.int p1), .val (.int p2), .val (.int p3), .val (.int p4), .val (.ref b1), .val (.ref b15), .val (.ref b24), .val vr33, .val .null, .unset, .unset, .unset, .unset, .unset] [])) _
      refine XS.iloadN X23.here hx rfl (hb hby at_83) rfl ?_
      show Steps p.tables e below (T23.setTop (mkF m 84 #[.val (.int p1), .val (.int p2), .val (.int p3), .val (.int p4), .val (.ref b1), .val (.ref b15), .val (.ref b24), .val vr33, .val .null, .unset, .unset, .unset, .unset, .unset] [(.int p4)])) _
      refine XT.iconstV X23.here hx rfl (4 : Int32) (hb hby at_84) (by decide) ?_
      show Steps p.tables e below (T23.setTop (mkF m 85 #[.val (.int p1), .val (.int p2), .val (.int p3), .val (.int p4), .val (.ref b1), .val (.ref b15), .val (.ref b24), .val vr33, .val .null, .unset, .unset, .unset, .unset, .unset] [(.int (4 : Int32)), (.int p4)])) _
      refine own_op_iand X23.here hx rfl (hb hby at_85) rfl (z := (p4 &&& (4 : Int32))) rfl ?_
      exact k_
    obtain ⟨vt37, d37, S37⟩ : ∃ vt37 : Value, (((p4 &&& (4 : Int32)) = (0 : Int32) ∧ vt37 = .null) ∨ (¬ (p4 &&& (4 : Int32)) = (0 : Int32) ∧ vt37 = (.ref b24))) ∧ ∀ t_, Steps p.tables e below (T23.setTop (mkF m 95 #[.val (.int p1), .val (.int p2), .val (.int p3), .val (.int p4), .val (.ref b1), .val (.ref b15), .val (.ref b24), .val vr33, .val .null, .unset, .unset, .unset, .unset, .unset] [vt37])) t_ → Steps p.tables e below (s₁.setTop (entryFrame m #[(.int p1), (.int p2), (.int p3), (.int p4)] maxLocals)) t_ := by
      by_cases cnd37 : (p4 &&& (4 : Int32)) = (0 : Int32)
      · refine ⟨.null, Or.inl ⟨cnd37, rfl⟩, fun t_ k_ => S36 t_ ?_⟩
        show Steps p.tables e below (T23.setTop (mkF m 86 #[.val (.int p1), .val (.int p2), .val (.int p3), .val (.int p4), .val (.ref b1), .val (.ref b15), .val (.ref b24), .val vr33, .val .null, .unset, .unset, .unset, .unset, .unset] [(.int (p4 &&& (4 : Int32)))])) _
        refine XS.ifYes X23.here hx rfl (pc0 := 86) (pc' := 94) rfl (hb hby at_86) rfl ((if0 _ _).trans (teq (cnd37 : (p4 &&& (4 : Int32)) = (0 : Int32))).1) (by decide) (by decide) ?_
        show Steps p.tables e below (T23.setTop (mkF m 94 #[.val (.int p1), .val (.int p2), .val (.int p3), .val (.int p4), .val (.ref b1), .val (.ref b15), .val (.ref b24), .val vr33, .val .null, .unset, .unset, .unset, .unset, .unset] [])) _
        refine XS.aconstNull X23.here hx rfl (hb hby at_94) ?_
        exact k_
      · refine ⟨(.ref b24), Or.inr ⟨cnd37, rfl⟩, fun t_ k_ => S36 t_ ?_⟩
        show Steps p.tables e below (T23.setTop (mkF m 86 #[.val (.int p1), .val (.int p2), .val (.int p3), .val (.int p4), .val (.ref b1), .val (.ref b15), .val (.ref b24), .val vr33, .val .null, .unset, .unset, .unset, .unset, .unset] [(.int (p4 &&& (4 : Int32)))])) _
        refine XS.ifNo X23.here hx rfl (hb hby at_86) rfl ((if0 _ _).trans (feq (cnd37 : ¬ (p4 &&& (4 : Int32)) = (0 : Int32))).1) ?_
        show Steps p.tables e below (T23.setTop (mkF m 89 #[.val (.int p1), .val (.int p2), .val (.int p3), .val (.int p4), .val (.ref b1), .val (.ref b15), .val (.ref b24), .val vr33, .val .null, .unset, .unset, .unset, .unset, .unset] [])) _
        refine XS.aload X23.here hx rfl (hb hby at_89) rfl rfl ?_
        show Steps p.tables e below (T23.setTop (mkF m 91 #[.val (.int p1), .val (.int p2), .val (.int p3), .val (.int p4), .val (.ref b1), .val (.ref b15), .val (.ref b24), .val vr33, .val .null, .unset, .unset, .unset, .unset, .unset] [(.ref b24)])) _
        refine XS.goto X23.here hx rfl (pc0 := 91) (pc' := 95) rfl (hb hby at_91) (by decide) (by decide) ?_
        exact k_
    have i37 : vt37.isRef = true := by rcases d37 with ⟨-, rfl⟩ | ⟨-, rfl⟩ <;> rfl
    obtain ⟨_, _, ⟨T38, L38, k38, n38⟩, -, X38, ⟨Lc38, hQ38, l38, y38, z38⟩, st38⟩ := Jvm.LawKit.callS X23 hx (y := (⟨"com/example/fetcher/client/Received", "error", "(Ljava/lang/String;Ljava/lang/String;Ljava/lang/String;)Lcom/example/fetcher/client/Received;"⟩ : MethodName)) hown (mvT hZ (tw44 hw)) (mvT hZ (tw45 hw)) (mvT hZ (tw46 hw)) (mvT hZ (tw47 hw)) (by decide) (backOf (W := 0) (rm_err l Z a0 hw [] vr33 .null vt37 a_EMPTY_LIST a_EMPTY_SET T23.heap n0 (by omega) O23 i33 rfl i37 E_a_EMPTY_LIST F_a_EMPTY_LIST_allowNulls E_a_EMPTY_SET S_EMPTY_LIST S_EMPTY_SET) hZ (tw47 hw) (tw46 hw) (by decide) (by decide)) (g := (mkF m 103 #[.val (.int p1), .val (.int p2), .val (.int p3), .val (.int p4), .val (.ref b1), .val (.ref b15), .val (.ref b24), .val vr33, .val .null, .val vt37, .unset, .unset, .unset, .unset] [vt37, .null, vr33])) rfl (by rw [hml]; rfl) (argsL := [vr33, .null, vt37]) (rest := []) (lenOf pd21 rfl) rfl (by show 2 * 0 + _ ≤ _; exact Nat.le_of_eq rfl) (hb hby at_103) (fun _ _ => ⟨rfl, rfl, (by decide : 7 + 1 ≤ _), (by decide : 18 + 7 ≤ _)⟩)
    dsimp only [Pt.U, Pt.locs, Pt.cells, Pt.slots] at X38 l38 y38 z38 st38 hQ38
    subst l38 y38 z38
    obtain ⟨o39, rfl, N38q, Kq38, p38_0, p38_1, p38_2, p38_3, p38_4, p38_5⟩ := hQ38
    have N38 := Fr.app N23 N38q
    have z38 := Kq38.1
    have O38 := O23.keep Kq38 all0
    have lq40 : (o39 : Nat) < (T38.heap.size : Nat) := p38_0.lt
    have lq41 : (o39 : Nat) < (T38.heap.size : Nat) := p38_1.lt
    have lq42 : (o39 : Nat) < (T38.heap.size : Nat) := p38_2.lt
    have lq43 : (o39 : Nat) < (T38.heap.size : Nat) := p38_3.lt
    have lq44 : (o39 : Nat) < (T38.heap.size : Nat) := p38_4.lt
    have bq38 := p38_5
    obtain ⟨cq45, kq45, q45a, q45b, q45c⟩ := isOf hZ rfl p38_0
    obtain ⟨_, _, ⟨T45, L45, k45, n45⟩, -, X45, ⟨Lc45, hQ45, l45, y45, z45⟩, st45⟩ := X38.virtualBack hx (y := (⟨"com/example/fetcher/client/Received", "isError", "()Z"⟩ : MethodName)) (z := (⟨"com/example/fetcher/client/Received", "isError", "()Z"⟩ : MethodName)) hown (mvT hZ (tw104 hw)) (mvT hZ (tw105 hw)) (notFace_of_selects (args := #[]) (mvT hZ (tw107 hw))) (mvT hZ (tw107 hw)) (mvT hZ (tw106 hw)) (by decide) (backOf (W := 0) (rm_ieN l Z a0 hw [] o39 T38.heap n0 (by omega) O38 p38_1) hZ (tw108 hw) (tw46 hw) (by decide) (by decide)) q45a q45c (g := (mkF m 110 #[.val (.int p1), .val (.int p2), .val (.int p3), .val (.int p4), .val (.ref b1), .val (.ref b15), .val (.ref b24), .val vr33, .val .null, .val vt37, .val (.ref o39), .unset, .unset, .unset] [(.ref o39)])) rfl (by rw [hml]; rfl) (Steps.refl _) (argsL := []) (rest := []) (lenOf pd13 rfl) rfl (by show 2 * 0 + _ ≤ _; exact Nat.le_of_eq rfl) (hb hby at_110) (fun _ _ => ⟨rfl, rfl, (by decide : 8 + 0 ≤ _), (by decide : 25 + 0 ≤ _)⟩)
    dsimp only [Pt.U, Pt.locs, Pt.cells, Pt.slots] at X45 l45 y45 z45 st45 hQ45
    subst l45 y45 z45
    obtain ⟨rfl, N45q, Kq45⟩ := hQ45
    have N45 := Fr.app N38 N45q
    obtain ⟨cq46, kq46, q46a, q46b, q46c⟩ := isOf hZ Kq45 p38_0
    obtain ⟨_, _, ⟨T46, L46, k46, n46⟩, -, X46, ⟨Lc46, hQ46, l46, y46, z46⟩, st46⟩ := X45.virtualBack hx (y := (⟨"com/example/fetcher/client/Received", "errorCode", "()Ljava/lang/String;"⟩ : MethodName)) (z := (⟨"com/example/fetcher/client/Received", "errorCode", "()Ljava/lang/String;"⟩ : MethodName)) hown (mvT hZ (tw109 hw)) (mvT hZ (tw110 hw)) (notFace_of_selects (args := #[]) (mvT hZ (tw112 hw))) (mvT hZ (tw112 hw)) (mvT hZ (tw111 hw)) (by decide) (backOf (W := 0) (rm_ecN l Z a0 hw [] o39 T38.heap n0 (by omega) O38 p38_1) hZ (tw113 hw) (tw46 hw) (by decide) (by decide)) q46a q46c (g := (mkF m 128 #[.val (.int p1), .val (.int p2), .val (.int p3), .val (.int p4), .val (.ref b1), .val (.ref b15), .val (.ref b24), .val vr33, .val .null, .val vt37, .val (.ref o39), .unset, .unset, .unset] [(.ref o39)])) rfl (by rw [hml]; rfl) (Steps.refl _) (argsL := []) (rest := []) (lenOf pd22 rfl) rfl (by show 2 * 0 + _ ≤ _; exact Nat.le_of_eq rfl) (hb hby at_128) (fun _ _ => ⟨rfl, Kq45, (by decide : 8 + 0 ≤ _), (by decide : 25 + 0 ≤ _)⟩)
    dsimp only [Pt.U, Pt.locs, Pt.cells, Pt.slots] at X46 l46 y46 z46 st46 hQ46
    subst l46 y46 z46
    obtain ⟨rfl, N46q, Kq46⟩ := hQ46
    have N46 := Fr.app N45 N46q
    obtain ⟨T47, h47, X47, e47, E47, A47, D47, -, st47⟩ := newO X46 hx hZ hown (tw114 hw) (tw115 hw) (tw116 hw) Kq46 (g := (mkF m 143 #[.val (.int p1), .val (.int p2), .val (.int p3), .val (.int p4), .val (.ref b1), .val (.ref b15), .val (.ref b24), .val vr33, .val .null, .val vt37, .val (.ref o39), .val (.int (1 : Int32)), .unset, .unset] [])) rfl (hb hby at_143) (by decide) (by decide)
    obtain ⟨b47, g47⟩ : ∃ z, z = T38.heap.size := ⟨_, rfl⟩
    rw [← g47] at A47 D47 st47
    have lb47 : (b47 : Nat) < (h47.size : Nat) := A47.lt
    have z47 := E47.1
    have O47 := O38.ext E47
    have f48 : Fld Z h47 b47 "java/util/AbstractList" "modCount" "I" (.int (0 : Int32)) := D47 (Or.inl (tw134 hw)) (ty := .int) (by decide)
    have f49 : Fld Z h47 b47 "java/util/ArrayList" "elementData" "[Ljava/lang/Object;" .null := D47 (Or.inl (tw137 hw)) (ty := (.array (.object "java/lang/Object"))) (by decide)
    have f50 : Fld Z h47 b47 "java/util/ArrayList" "size" "I" (.int (0 : Int32)) := D47 (Or.inl (tw169 hw)) (ty := .int) (by decide)
    obtain ⟨_, _, ⟨T51, L51, k51, n51⟩, -, X51, ⟨Lc51, hQ51, l51, y51, z51⟩, st51⟩ := X47.specialBack hx (y := (⟨"java/util/ArrayList", "<init>", "()V"⟩ : MethodName)) rfl hown (mvT hZ (tw117 hw)) (mvT hZ (tw118 hw)) (mvT hZ (tw119 hw)) (by decide) (backOf (W := 1) (rm_alin l Z a0 hw [] b47 (.int (0 : Int32)) .null (0 : Int32) a_DEFAULTCAPACITY_EMPTY_ELEMENTDATA h47 n0 (by omega) O47 A47 f48 f49 f50 (by omega) S_DEFAULTCAPACITY_EMPTY_ELEMENTDATA) hZ (tw119 hw) (tw116 hw) (by decide) (by decide)) (g := (mkF m 147 #[.val (.int p1), .val (.int p2), .val (.int p3), .val (.int p4), .val (.ref b1), .val (.ref b15), .val (.ref b24), .val vr33, .val .null, .val vt37, .val (.ref o39), .val (.int (1 : Int32)), .unset, .unset] [(.ref b47), (.ref b47)])) rfl (by rw [hml]; rfl) (Steps.refl _) (a := b47) (argsL := []) (rest := [(.ref b47)]) (lenOf pd4 rfl) rfl (by show 2 * 0 + _ ≤ _; exact Nat.le_of_eq rfl) (hb hby at_147) (fun _ _ => ⟨rfl, e47, (by decide : 9 + 0 ≤ _), (by decide : 28 + 0 ≤ _)⟩)
    dsimp only [Pt.U, Pt.locs, Pt.cells, Pt.slots] at X51 l51 y51 z51 st51 hQ51
    subst l51 y51 z51
    obtain ⟨rfl, N51q, Kq51, p51_0, p51_1, p51_2, p51_3⟩ := hQ51
    have N51 := Fr.app N46 N51q
    have z51 := Kq51.1
    have O51 := O47.keep Kq51 (allS (by omega) all0)
    have lq52 : (b47 : Nat) < (T51.heap.size : Nat) := p51_0.lt
    have lq53 : (b47 : Nat) < (T51.heap.size : Nat) := p51_1.lt
    have lq54 : (b47 : Nat) < (T51.heap.size : Nat) := p51_2.lt
    have lq55 : (b47 : Nat) < (T51.heap.size : Nat) := p51_3.lt
    have S56 : ∀ t_, Steps p.tables e below (T51.setTop (mkF m 156 #[.val (.int p1), .val (.int p2), .val (.int p3), .val (.int p4), .val (.ref b1), .val (.ref b15), .val (.ref b24), .val vr33, .val .null, .val vt37, .val (.ref o39), .val (.int (1 : Int32)), .val (.ref b47), .unset] [(.int (p4 &&& (8 : Int32)))])) t_ → Steps p.tables e below (s₁.setTop (entryFrame m #[(.int p1), (.int p2), (.int p3), (.int p4)] maxLocals)) t_ := by
      intro t_ k_
      refine S37 t_ ?_
      show Steps p.tables e below (T23.setTop (mkF m 95 #[.val (.int p1), .val (.int p2), .val (.int p3), .val (.int p4), .val (.ref b1), .val (.ref b15), .val (.ref b24), .val vr33, .val .null, .unset, .unset, .unset, .unset, .unset] [vt37])) _
      refine XS.astore X23.here hx rfl (hb hby at_95) rfl i37 (l' := #[.val (.int p1), .val (.int p2), .val (.int p3), .val (.int p4), .val (.ref b1), .val (.ref b15), .val (.ref b24), .val vr33, .val .null, .val vt37, .unset, .unset, .unset, .unset]) (by rcases ref_cases i37 with q | ⟨_, q⟩ <;> subst q <;> rfl) ?_
      show Steps p.tables e below (T23.setTop (mkF m 97 #[.val (.int p1), .val (.int p2), .val (.int p3), .val (.int p4), .val (.ref b1), .val (.ref b15), .val (.ref b24), .val vr33, .val .null, .val vt37, .unset, .unset, .unset, .unset] [])) _
      refine XS.aload X23.here hx rfl (hb hby at_97) rfl i33 ?_
      show Steps p.tables e below (T23.setTop (mkF m 99 #[.val (.int p1), .val (.int p2), .val (.int p3), .val (.int p4), .val (.ref b1), .val (.ref b15), .val (.ref b24), .val vr33, .val .null, .val vt37, .unset, .unset, .unset, .unset] [vr33])) _
      refine XS.aload X23.here hx rfl (hb hby at_99) rfl rfl ?_
      show Steps p.tables e below (T23.setTop (mkF m 101 #[.val (.int p1), .val (.int p2), .val (.int p3), .val (.int p4), .val (.ref b1), .val (.ref b15), .val (.ref b24), .val vr33, .val .null, .val vt37, .unset, .unset, .unset, .unset] [.null, vr33])) _
      refine XS.aload X23.here hx rfl (hb hby at_101) rfl i37 ?_
      show Steps p.tables e below (T23.setTop (mkF m 103 #[.val (.int p1), .val (.int p2), .val (.int p3), .val (.int p4), .val (.ref b1), .val (.ref b15), .val (.ref b24), .val vr33, .val .null, .val vt37, .unset, .unset, .unset, .unset] [vt37, .null, vr33])) _
      refine st38 _ ?_
      show Steps p.tables e below (T38.setTop (mkF m 106 #[.val (.int p1), .val (.int p2), .val (.int p3), .val (.int p4), .val (.ref b1), .val (.ref b15), .val (.ref b24), .val vr33, .val .null, .val vt37, .unset, .unset, .unset, .unset] [(.ref o39)])) _
      refine XS.astore X38.here hx rfl (hb hby at_106) rfl rfl (l' := #[.val (.int p1), .val (.int p2), .val (.int p3), .val (.int p4), .val (.ref b1), .val (.ref b15), .val (.ref b24), .val vr33, .val .null, .val vt37, .val (.ref o39), .unset, .unset, .unset]) rfl ?_
      show Steps p.tables e below (T38.setTop (mkF m 108 #[.val (.int p1), .val (.int p2), .val (.int p3), .val (.int p4), .val (.ref b1), .val (.ref b15), .val (.ref b24), .val vr33, .val .null, .val vt37, .val (.ref o39), .unset, .unset, .unset] [])) _
      refine XS.aload X38.here hx rfl (hb hby at_108) rfl rfl ?_
      show Steps p.tables e below (T38.setTop (mkF m 110 #[.val (.int p1), .val (.int p2), .val (.int p3), .val (.int p4), .val (.ref b1), .val (.ref b15), .val (.ref b24), .val vr33, .val .null, .val vt37, .val (.ref o39), .unset, .unset, .unset] [(.ref o39)])) _
      refine st45.trans ?_
      show Steps p.tables e below (T45.setTop (mkF m 113 #[.val (.int p1), .val (.int p2), .val (.int p3), .val (.int p4), .val (.ref b1), .val (.ref b15), .val (.ref b24), .val vr33, .val .null, .val vt37, .val (.ref o39), .unset, .unset, .unset] [(.int (0 : Int32))])) _
      refine XS.aload X45.here hx rfl (hb hby at_113) rfl rfl ?_
      show Steps p.tables e below (T45.setTop (mkF m 115 #[.val (.int p1), .val (.int p2), .val (.int p3), .val (.int p4), .val (.ref b1), .val (.ref b15), .val (.ref b24), .val vr33, .val .null, .val vt37, .val (.ref o39), .unset, .unset, .unset] [.null, (.int (0 : Int32))])) _
      refine XS.ifnullYes X45.here hx rfl (pc0 := 115) (pc' := 122) rfl (hb hby at_115) rfl (by decide) (by decide) ?_
      show Steps p.tables e below (T45.setTop (mkF m 122 #[.val (.int p1), .val (.int p2), .val (.int p3), .val (.int p4), .val (.ref b1), .val (.ref b15), .val (.ref b24), .val vr33, .val .null, .val vt37, .val (.ref o39), .unset, .unset, .unset] [(.int (0 : Int32))])) _
      refine XT.iconstV X45.here hx rfl (0 : Int32) (hb hby at_122) (by decide) ?_
      show Steps p.tables e below (T45.setTop (mkF m 123 #[.val (.int p1), .val (.int p2), .val (.int p3), .val (.int p4), .val (.ref b1), .val (.ref b15), .val (.ref b24), .val vr33, .val .null, .val vt37, .val (.ref o39), .unset, .unset, .unset] [(.int (0 : Int32)), (.int (0 : Int32))])) _
      refine XS.icmpNo X45.here hx rfl (hb hby at_123) rfl (by decide) ?_
      show Steps p.tables e below (T45.setTop (mkF m 126 #[.val (.int p1), .val (.int p2), .val (.int p3), .val (.int p4), .val (.ref b1), .val (.ref b15), .val (.ref b24), .val vr33, .val .null, .val vt37, .val (.ref o39), .unset, .unset, .unset] [])) _
      refine XS.aload X45.here hx rfl (hb hby at_126) rfl rfl ?_
      show Steps p.tables e below (T45.setTop (mkF m 128 #[.val (.int p1), .val (.int p2), .val (.int p3), .val (.int p4), .val (.ref b1), .val (.ref b15), .val (.ref b24), .val vr33, .val .null, .val vt37, .val (.ref o39), .unset, .unset, .unset] [(.ref o39)])) _
      refine st46.trans ?_
      show Steps p.tables e below (T46.setTop (mkF m 131 #[.val (.int p1), .val (.int p2), .val (.int p3), .val (.int p4), .val (.ref b1), .val (.ref b15), .val (.ref b24), .val vr33, .val .null, .val vt37, .val (.ref o39), .unset, .unset, .unset] [.null])) _
      refine XS.aload X46.here hx rfl (hb hby at_131) rfl rfl ?_
      show Steps p.tables e below (T46.setTop (mkF m 133 #[.val (.int p1), .val (.int p2), .val (.int p3), .val (.int p4), .val (.ref b1), .val (.ref b15), .val (.ref b24), .val vr33, .val .null, .val vt37, .val (.ref o39), .unset, .unset, .unset] [.null, .null])) _
      refine Jvm.RoadKit.acmp (g := (mkF m 133 #[.val (.int p1), .val (.int p2), .val (.int p3), .val (.int p4), .val (.ref b1), .val (.ref b15), .val (.ref b24), .val vr33, .val .null, .val vt37, .val (.ref o39), .unset, .unset, .unset] [.null, .null])) X46 hx rfl rfl rfl (pc0 := 133) (pc' := 136) (same := true) rfl (hb hby at_133) rfl (decide_eq_true rfl) (by decide) (by decide) ?_
      show Steps p.tables e below (T46.setTop (mkF m 136 #[.val (.int p1), .val (.int p2), .val (.int p3), .val (.int p4), .val (.ref b1), .val (.ref b15), .val (.ref b24), .val vr33, .val .null, .val vt37, .val (.ref o39), .unset, .unset, .unset] [])) _
      refine XT.iconstV X46.here hx rfl (1 : Int32) (hb hby at_136) (by decide) ?_
      show Steps p.tables e below (T46.setTop (mkF m 137 #[.val (.int p1), .val (.int p2), .val (.int p3), .val (.int p4), .val (.ref b1), .val (.ref b15), .val (.ref b24), .val vr33, .val .null, .val vt37, .val (.ref o39), .unset, .unset, .unset] [(.int (1 : Int32))])) _
      refine XS.goto X46.here hx rfl (pc0 := 137) (pc' := 141) rfl (hb hby at_137) (by decide) (by decide) ?_
      show Steps p.tables e below (T46.setTop (mkF m 141 #[.val (.int p1), .val (.int p2), .val (.int p3), .val (.int p4), .val (.ref b1), .val (.ref b15), .val (.ref b24), .val vr33, .val .null, .val vt37, .val (.ref o39), .unset, .unset, .unset] [(.int (1 : Int32))])) _
      refine XS.istore X46.here hx rfl (hb hby at_141) rfl (l' := #[.val (.int p1), .val (.int p2), .val (.int p3), .val (.int p4), .val (.ref b1), .val (.ref b15), .val (.ref b24), .val vr33, .val .null, .val vt37, .val (.ref o39), .val (.int (1 : Int32)), .unset, .unset]) rfl ?_
      show Steps p.tables e below (T46.setTop (mkF m 143 #[.val (.int p1), .val (.int p2), .val (.int p3), .val (.int p4), .val (.ref b1), .val (.ref b15), .val (.ref b24), .val vr33, .val .null, .val vt37, .val (.ref o39), .val (.int (1 : Int32)), .unset, .unset] [])) _
      refine st47 _ ?_
      show Steps p.tables e below (T47.setTop (mkF m 146 #[.val (.int p1), .val (.int p2), .val (.int p3), .val (.int p4), .val (.ref b1), .val (.ref b15), .val (.ref b24), .val vr33, .val .null, .val vt37, .val (.ref o39), .val (.int (1 : Int32)), .unset, .unset] [(.ref b47)])) _
      refine XS.dup X47.here hx rfl (hb hby at_146) rfl rfl ?_
      show Steps p.tables e below (T47.setTop (mkF m 147 #[.val (.int p1), .val (.int p2), .val (.int p3), .val (.int p4), .val (.ref b1), .val (.ref b15), .val (.ref b24), .val vr33, .val .null, .val vt37, .val (.ref o39), .val (.int (1 : Int32)), .unset, .unset] [(.ref b47), (.ref b47)])) _
      refine st51.trans ?_
      show Steps p.tables e below (T51.setTop (mkF m 150 #[.val (.int p1), .val (.int p2), .val (.int p3), .val (.int p4), .val (.ref b1), .val (.ref b15), .val (.ref b24), .val vr33, .val .null, .val vt37, .val (.ref o39), .val (.int (1 : Int32)), .unset, .unset] [(.ref b47)])) _
      refine XS.astore X51.here hx rfl (hb hby at_150) rfl rfl (l' := #[.val (.int p1), .val (.int p2), .val (.int p3), .val (.int p4), .val (.ref b1), .val (.ref b15), .val (.ref b24), .val vr33, .val .null, .val vt37, .val (.ref o39), .val (.int (1 : Int32)), .val (.ref b47), .unset]) rfl ?_
      show Steps p.tables e below (T51.setTop (mkF m 152 #[.val (.int p1), .val (.int p2), .val (.int p3), .val (.int p4), .val (.ref b1), .val (.ref b15), .val (.ref b24), .val vr33, .val .null, .val vt37, .val (.ref o39), .val (.int (1 : Int32)), .val (.ref b47), .unset] [])) _
      refine XS.iloadN X51.here hx rfl (hb hby at_152) rfl ?_
      show Steps p.tables e below (T51.setTop (mkF m 153 #[.val (.int p1), .val (.int p2), .val (.int p3), .val (.int p4), .val (.ref b1), .val (.ref b15), .val (.ref b24), .val vr33, .val .null, .val vt37, .val (.ref o39), .val (.int (1 : Int32)), .val (.ref b47), .unset] [(.int p4)])) _
      refine XT.bipushV X51.here hx rfl (8 : Int32) (hb hby at_153) (by decide) ?_
      show Steps p.tables e below (T51.setTop (mkF m 155 #[.val (.int p1), .val (.int p2), .val (.int p3), .val (.int p4), .val (.ref b1), .val (.ref b15), .val (.ref b24), .val vr33, .val .null, .val vt37, .val (.ref o39), .val (.int (1 : Int32)), .val (.ref b47), .unset] [(.int (8 : Int32)), (.int p4)])) _
      refine own_op_iand X51.here hx rfl (hb hby at_155) rfl (z := (p4 &&& (8 : Int32))) rfl ?_
      exact k_
    by_cases cnd57 : (p4 &&& (8 : Int32)) = (0 : Int32)
    · -- (p4 &&& (8 : Int32)) = (0 : Int32)
      obtain ⟨T58, h58, X58, e58, E58, A58, D58, -, st58⟩ := newO X51 hx hZ hown (tw138 hw) (tw49 hw) (tw46 hw) rfl (g := (mkF m 167 #[.val (.int p1), .val (.int p2), .val (.int p3), .val (.int p4), .val (.ref b1), .val (.ref b15), .val (.ref b24), .val vr33, .val .null, .val vt37, .val (.ref o39), .val (.int (1 : Int32)), .val (.ref b47), .unset] [])) rfl (hb hby at_167) (by decide) (by decide)
      obtain ⟨b58, g58⟩ : ∃ z, z = T51.heap.size := ⟨_, rfl⟩
      rw [← g58] at A58 D58 st58
      have lb58 : (b58 : Nat) < (h58.size : Nat) := A58.lt
      have z58 := E58.1
      have O58 := O51.ext E58
      have f59 : Fld Z h58 b58 "com/example/fetcher/client/Received" "replyTo" "Ljava/lang/String;" .null := D58 (Or.inr (tw66 hw)) (ty := (.object "java/lang/String")) (by decide)
      have f60 : Fld Z h58 b58 "com/example/fetcher/client/Received" "errorCode" "Ljava/lang/String;" .null := D58 (Or.inr (tw68 hw)) (ty := (.object "java/lang/String")) (by decide)
      have f61 : Fld Z h58 b58 "com/example/fetcher/client/Received" "errorText" "Ljava/lang/String;" .null := D58 (Or.inr (tw70 hw)) (ty := (.object "java/lang/String")) (by decide)
      have f62 : Fld Z h58 b58 "com/example/fetcher/client/Received" "resources" "Ljava/util/List;" .null := D58 (Or.inr (tw90 hw)) (ty := (.object "java/util/List")) (by decide)
      have f63 : Fld Z h58 b58 "com/example/fetcher/client/Received" "returned" "Ljava/util/List;" .null := D58 (Or.inr (tw92 hw)) (ty := (.object "java/util/List")) (by decide)
      have f64 : Fld Z h58 b58 "com/example/fetcher/client/Received" "told" "Ljava/util/List;" .null := D58 (Or.inr (tw94 hw)) (ty := (.object "java/util/List")) (by decide)
      have f65 : Fld Z h58 b58 "com/example/fetcher/client/Received" "versions" "Ljava/util/Set;" .null := D58 (Or.inr (tw103 hw)) (ty := (.object "java/util/Set")) (by decide)
      have f66 := (((p38_2.ext E47).keep Kq51 (ninS (by omega : (o39 : Nat) ≠ (b47 : Nat)) nin0)).ext E58)
      have f68 := (((p38_0.ext E47).keep Kq51).ext E58)
      obtain ⟨cq67, kq67, q67a, q67b, q67c⟩ := isOf hZ e58 f68
      obtain ⟨_, _, ⟨T67, L67, k67, n67⟩, -, X67, ⟨Lc67, hQ67, l67, y67, z67⟩, st67⟩ := X58.virtualBack hx (y := (⟨"com/example/fetcher/client/Received", "returned", "()Ljava/util/List;"⟩ : MethodName)) (z := (⟨"com/example/fetcher/client/Received", "returned", "()Ljava/util/List;"⟩ : MethodName)) hown (mvT hZ (tw139 hw)) (mvT hZ (tw140 hw)) (notFace_of_selects (args := #[]) (mvT hZ (tw142 hw))) (mvT hZ (tw142 hw)) (mvT hZ (tw141 hw)) (by decide) (backOf (W := 4) (rm_gre l Z a0 hw [] o39 a_EMPTY_LIST h58 n0 (by omega) O58 f66) hZ (tw143 hw) (tw46 hw) (by decide) (by decide)) q67a q67c (g := (mkF m 177 #[.val (.int p1), .val (.int p2), .val (.int p3), .val (.int p4), .val (.ref b1), .val (.ref b15), .val (.ref b24), .val vr33, .val .null, .val vt37, .val (.ref o39), .val (.int (1 : Int32)), .val (.ref b47), .unset] [(.ref o39), (.ref b47), vr33, (.ref b58), (.ref b58)])) rfl (by rw [hml]; rfl) (Steps.refl _) (argsL := []) (rest := [(.ref b47), vr33, (.ref b58), (.ref b58)]) (lenOf pd14 rfl) rfl (by simp [own_cR, own_cI, own_cJ, own_cN, own_cat i33]) (hb hby at_177) (fun _ _ => ⟨rfl, e58, (by decide : 10 + 0 ≤ _), (by decide : 35 + 0 ≤ _)⟩)
      dsimp only [Pt.U, Pt.locs, Pt.cells, Pt.slots] at X67 l67 y67 z67 st67 hQ67
      subst l67 y67 z67
      obtain ⟨rfl, N67q, Kq67⟩ := hQ67
      have N67 := Fr.app N51 N67q
      have f69 := (((p38_3.ext E47).keep Kq51 (ninS (by omega : (o39 : Nat) ≠ (b47 : Nat)) nin0)).ext E58)
      obtain ⟨cq70, kq70, q70a, q70b, q70c⟩ := isOf hZ Kq67 f68
      obtain ⟨_, _, ⟨T70, L70, k70, n70⟩, -, X70, ⟨Lc70, hQ70, l70, y70, z70⟩, st70⟩ := X67.virtualBack hx (y := (⟨"com/example/fetcher/client/Received", "told", "()Ljava/util/List;"⟩ : MethodName)) (z := (⟨"com/example/fetcher/client/Received", "told", "()Ljava/util/List;"⟩ : MethodName)) hown (mvT hZ (tw144 hw)) (mvT hZ (tw145 hw)) (notFace_of_selects (args := #[]) (mvT hZ (tw147 hw))) (mvT hZ (tw147 hw)) (mvT hZ (tw146 hw)) (by decide) (backOf (W := 5) (rm_gto l Z a0 hw [] o39 a_EMPTY_LIST h58 n0 (by omega) O58 f69) hZ (tw148 hw) (tw46 hw) (by decide) (by decide)) q70a q70c (g := (mkF m 182 #[.val (.int p1), .val (.int p2), .val (.int p3), .val (.int p4), .val (.ref b1), .val (.ref b15), .val (.ref b24), .val vr33, .val .null, .val vt37, .val (.ref o39), .val (.int (1 : Int32)), .val (.ref b47), .unset] [(.ref o39), (.ref a_EMPTY_LIST), (.ref b47), vr33, (.ref b58), (.ref b58)])) rfl (by rw [hml]; rfl) (Steps.refl _) (argsL := []) (rest := [(.ref a_EMPTY_LIST), (.ref b47), vr33, (.ref b58), (.ref b58)]) (lenOf pd14 rfl) rfl (by simp [own_cR, own_cI, own_cJ, own_cN, own_cat i33]) (hb hby at_182) (fun _ _ => ⟨rfl, Kq67, (by decide : 10 + 0 ≤ _), (by decide : 35 + 0 ≤ _)⟩)
      dsimp only [Pt.U, Pt.locs, Pt.cells, Pt.slots] at X70 l70 y70 z70 st70 hQ70
      subst l70 y70 z70
      obtain ⟨rfl, N70q, Kq70⟩ := hQ70
      have N70 := Fr.app N67 N70q
      have f71 := (((p38_4.ext E47).keep Kq51 (ninS (by omega : (o39 : Nat) ≠ (b47 : Nat)) nin0)).ext E58)
      obtain ⟨cq72, kq72, q72a, q72b, q72c⟩ := isOf hZ Kq70 f68
      obtain ⟨_, _, ⟨T72, L72, k72, n72⟩, -, X72, ⟨Lc72, hQ72, l72, y72, z72⟩, st72⟩ := X70.virtualBack hx (y := (⟨"com/example/fetcher/client/Received", "versions", "()Ljava/util/Set;"⟩ : MethodName)) (z := (⟨"com/example/fetcher/client/Received", "versions", "()Ljava/util/Set;"⟩ : MethodName)) hown (mvT hZ (tw149 hw)) (mvT hZ (tw150 hw)) (notFace_of_selects (args := #[]) (mvT hZ (tw152 hw))) (mvT hZ (tw152 hw)) (mvT hZ (tw151 hw)) (by decide) (backOf (W := 6) (rm_gve l Z a0 hw [] o39 a_EMPTY_SET h58 n0 (by omega) O58 f71) hZ (tw153 hw) (tw46 hw) (by decide) (by decide)) q72a q72c (g := (mkF m 187 #[.val (.int p1), .val (.int p2), .val (.int p3), .val (.int p4), .val (.ref b1), .val (.ref b15), .val (.ref b24), .val vr33, .val .null, .val vt37, .val (.ref o39), .val (.int (1 : Int32)), .val (.ref b47), .unset] [(.ref o39), (.ref a_EMPTY_LIST), (.ref a_EMPTY_LIST), (.ref b47), vr33, (.ref b58), (.ref b58)])) rfl (by rw [hml]; rfl) (Steps.refl _) (argsL := []) (rest := [(.ref a_EMPTY_LIST), (.ref a_EMPTY_LIST), (.ref b47), vr33, (.ref b58), (.ref b58)]) (lenOf pd17 rfl) rfl (by simp [own_cR, own_cI, own_cJ, own_cN, own_cat i33]) (hb hby at_187) (fun _ _ => ⟨rfl, Kq70, (by decide : 10 + 0 ≤ _), (by decide : 35 + 0 ≤ _)⟩)
      dsimp only [Pt.U, Pt.locs, Pt.cells, Pt.slots] at X72 l72 y72 z72 st72 hQ72
      subst l72 y72 z72
      obtain ⟨rfl, N72q, Kq72⟩ := hQ72
      have N72 := Fr.app N70 N72q
      have f73 := (p51_0.ext E58)
      have f74 := (p51_3.ext E58)
      obtain ⟨_, _, ⟨T75, L75, k75, n75⟩, -, X75, ⟨Lc75, hQ75, l75, y75, z75⟩, st75⟩ := X72.specialBack hx (y := (⟨"com/example/fetcher/client/Received", "<init>", "(Ljava/lang/String;Ljava/util/List;Ljava/util/List;Ljava/util/List;Ljava/util/Set;)V"⟩ : MethodName)) rfl hown (mvT hZ (tw154 hw)) (mvT hZ (tw155 hw)) (mvT hZ (tw156 hw)) (by decide) (backOf (W := 1) (rm_r50 l Z a0 hw [] b58 vr33 b47 .null .null .null .null .null .null .null a_EMPTY_LIST a_EMPTY_SET h58 n0 (by omega) O58 A58 f59 f60 f61 f62 f63 f64 f65 i33 (by omega) f73 f74 (by omega : (b47 : Nat) ≠ (b58 : Nat)) E_a_EMPTY_LIST F_a_EMPTY_LIST_allowNulls E_a_EMPTY_SET S_EMPTY_LIST) hZ (tw156 hw) (tw46 hw) (by decide) (by decide)) (g := (mkF m 190 #[.val (.int p1), .val (.int p2), .val (.int p3), .val (.int p4), .val (.ref b1), .val (.ref b15), .val (.ref b24), .val vr33, .val .null, .val vt37, .val (.ref o39), .val (.int (1 : Int32)), .val (.ref b47), .unset] [(.ref a_EMPTY_SET), (.ref a_EMPTY_LIST), (.ref a_EMPTY_LIST), (.ref b47), vr33, (.ref b58), (.ref b58)])) rfl (by rw [hml]; rfl) (Steps.refl _) (a := b58) (argsL := [vr33, (.ref b47), (.ref a_EMPTY_LIST), (.ref a_EMPTY_LIST), (.ref a_EMPTY_SET)]) (rest := [(.ref b58)]) (lenOf pd23 rfl) rfl (by show 2 * 0 + _ ≤ _; exact Nat.le_of_eq rfl) (hb hby at_190) (fun _ _ => ⟨rfl, Kq72, (by decide : 10 + 0 ≤ _), (by decide : 35 + 0 ≤ _)⟩)
      dsimp only [Pt.U, Pt.locs, Pt.cells, Pt.slots] at X75 l75 y75 z75 st75 hQ75
      subst l75 y75 z75
      obtain ⟨rfl, N75q, Kq75, p75_0, p75_1⟩ := hQ75
      have N75 := Fr.app N72 N75q
      have z75 := Kq75.1
      have O75 := O58.keep Kq75 (allS (by omega) all0)
      have lq76 : (b58 : Nat) < (T75.heap.size : Nat) := p75_0.lt
      have lq77 : (b58 : Nat) < (T75.heap.size : Nat) := p75_1.lt
      obtain ⟨cq78, kq78, q78a, q78b, q78c⟩ := isOf hZ rfl p75_0
      obtain ⟨_, _, ⟨T78, L78, k78, n78⟩, -, X78, ⟨Lc78, hQ78, l78, y78, z78⟩, st78⟩ := X75.virtualBack hx (y := (⟨"com/example/fetcher/client/Received", "isError", "()Z"⟩ : MethodName)) (z := (⟨"com/example/fetcher/client/Received", "isError", "()Z"⟩ : MethodName)) hown (mvT hZ (tw104 hw)) (mvT hZ (tw105 hw)) (notFace_of_selects (args := #[]) (mvT hZ (tw107 hw))) (mvT hZ (tw107 hw)) (mvT hZ (tw106 hw)) (by decide) (backOf (W := 0) (rm_ieN l Z a0 hw [] b58 T75.heap n0 (by omega) O75 p75_1) hZ (tw108 hw) (tw46 hw) (by decide) (by decide)) q78a q78c (g := (mkF m 202 #[.val (.int p1), .val (.int p2), .val (.int p3), .val (.int p4), .val (.ref b1), .val (.ref b15), .val (.ref b24), .val vr33, .val .null, .val vt37, .val (.ref o39), .val (.int (1 : Int32)), .val (.ref b47), .val (.ref b58)] [(.ref b58)])) rfl (by rw [hml]; rfl) (Steps.refl _) (argsL := []) (rest := []) (lenOf pd13 rfl) rfl (by show 2 * 0 + _ ≤ _; exact Nat.le_of_eq rfl) (hb hby at_202) (fun _ _ => ⟨rfl, rfl, (by decide : 10 + 0 ≤ _), (by decide : 35 + 0 ≤ _)⟩)
      dsimp only [Pt.U, Pt.locs, Pt.cells, Pt.slots] at X78 l78 y78 z78 st78 hQ78
      subst l78 y78 z78
      obtain ⟨rfl, N78q, Kq78⟩ := hQ78
      have N78 := Fr.app N75 N78q
      obtain ⟨cq79, kq79, q79a, q79b, q79c⟩ := isOf hZ Kq78 p75_0
      obtain ⟨_, _, ⟨T79, L79, k79, n79⟩, -, X79, ⟨Lc79, hQ79, l79, y79, z79⟩, st79⟩ := X78.virtualBack hx (y := (⟨"com/example/fetcher/client/Received", "errorCode", "()Ljava/lang/String;"⟩ : MethodName)) (z := (⟨"com/example/fetcher/client/Received", "errorCode", "()Ljava/lang/String;"⟩ : MethodName)) hown (mvT hZ (tw109 hw)) (mvT hZ (tw110 hw)) (notFace_of_selects (args := #[]) (mvT hZ (tw112 hw))) (mvT hZ (tw112 hw)) (mvT hZ (tw111 hw)) (by decide) (backOf (W := 0) (rm_ecN l Z a0 hw [] b58 T75.heap n0 (by omega) O75 p75_1) hZ (tw113 hw) (tw46 hw) (by decide) (by decide)) q79a q79c (g := (mkF m 210 #[.val (.int p1), .val (.int p2), .val (.int p3), .val (.int p4), .val (.ref b1), .val (.ref b15), .val (.ref b24), .val vr33, .val .null, .val vt37, .val (.ref o39), .val (.int (1 : Int32)), .val (.ref b47), .val (.ref b58)] [(.ref b58)])) rfl (by rw [hml]; rfl) (Steps.refl _) (argsL := []) (rest := []) (lenOf pd22 rfl) rfl (by show 2 * 0 + _ ≤ _; exact Nat.le_of_eq rfl) (hb hby at_210) (fun _ _ => ⟨rfl, Kq78, (by decide : 10 + 0 ≤ _), (by decide : 35 + 0 ≤ _)⟩)
      dsimp only [Pt.U, Pt.locs, Pt.cells, Pt.slots] at X79 l79 y79 z79 st79 hQ79
      subst l79 y79 z79
      obtain ⟨rfl, N79q, Kq79⟩ := hQ79
      have N79 := Fr.app N78 N79q
      have S80 : ∀ t_, Steps p.tables e below (T79.setTop (mkF m 225 #[.val (.int p1), .val (.int p2), .val (.int p3), .val (.int p4), .val (.ref b1), .val (.ref b15), .val (.ref b24), .val vr33, .val .null, .val vt37, .val (.ref o39), .val (.int (1 : Int32)), .val (.ref b47), .val (.ref b58)] [(.int (1 : Int32))])) t_ → Steps p.tables e below (s₁.setTop (entryFrame m #[(.int p1), (.int p2), (.int p3), (.int p4)] maxLocals)) t_ := by
        intro t_ k_
        refine S56 t_ ?_
        show Steps p.tables e below (T51.setTop (mkF m 156 #[.val (.int p1), .val (.int p2), .val (.int p3), .val (.int p4), .val (.ref b1), .val (.ref b15), .val (.ref b24), .val vr33, .val .null, .val vt37, .val (.ref o39), .val (.int (1 : Int32)), .val (.ref b47), .unset] [(.int (p4 &&& (8 : Int32)))])) _
        refine XS.ifYes X51.here hx rfl (pc0 := 156) (pc' := 167) rfl (hb hby at_156) rfl ((if0 _ _).trans (teq cnd57).1) (by decide) (by decide) ?_
        show Steps p.tables e below (T51.setTop (mkF m 167 #[.val (.int p1), .val (.int p2), .val (.int p3), .val (.int p4), .val (.ref b1), .val (.ref b15), .val (.ref b24), .val vr33, .val .null, .val vt37, .val (.ref o39), .val (.int (1 : Int32)), .val (.ref b47), .unset] [])) _
        refine st58 _ ?_
        show Steps p.tables e below (T58.setTop (mkF m 170 #[.val (.int p1), .val (.int p2), .val (.int p3), .val (.int p4), .val (.ref b1), .val (.ref b15), .val (.ref b24), .val vr33, .val .null, .val vt37, .val (.ref o39), .val (.int (1 : Int32)), .val (.ref b47), .unset] [(.ref b58)])) _
        refine XS.dup X58.here hx rfl (hb hby at_170) rfl rfl ?_
        show Steps p.tables e below (T58.setTop (mkF m 171 #[.val (.int p1), .val (.int p2), .val (.int p3), .val (.int p4), .val (.ref b1), .val (.ref b15), .val (.ref b24), .val vr33, .val .null, .val vt37, .val (.ref o39), .val (.int (1 : Int32)), .val (.ref b47), .unset] [(.ref b58), (.ref b58)])) _
        refine XS.aload X58.here hx rfl (hb hby at_171) rfl i33 ?_
        show Steps p.tables e below (T58.setTop (mkF m 173 #[.val (.int p1), .val (.int p2), .val (.int p3), .val (.int p4), .val (.ref b1), .val (.ref b15), .val (.ref b24), .val vr33, .val .null, .val vt37, .val (.ref o39), .val (.int (1 : Int32)), .val (.ref b47), .unset] [vr33, (.ref b58), (.ref b58)])) _
        refine XS.aload X58.here hx rfl (hb hby at_173) rfl rfl ?_
        show Steps p.tables e below (T58.setTop (mkF m 175 #[.val (.int p1), .val (.int p2), .val (.int p3), .val (.int p4), .val (.ref b1), .val (.ref b15), .val (.ref b24), .val vr33, .val .null, .val vt37, .val (.ref o39), .val (.int (1 : Int32)), .val (.ref b47), .unset] [(.ref b47), vr33, (.ref b58), (.ref b58)])) _
        refine XS.aload X58.here hx rfl (hb hby at_175) rfl rfl ?_
        show Steps p.tables e below (T58.setTop (mkF m 177 #[.val (.int p1), .val (.int p2), .val (.int p3), .val (.int p4), .val (.ref b1), .val (.ref b15), .val (.ref b24), .val vr33, .val .null, .val vt37, .val (.ref o39), .val (.int (1 : Int32)), .val (.ref b47), .unset] [(.ref o39), (.ref b47), vr33, (.ref b58), (.ref b58)])) _
        refine st67.trans ?_
        show Steps p.tables e below (T67.setTop (mkF m 180 #[.val (.int p1), .val (.int p2), .val (.int p3), .val (.int p4), .val (.ref b1), .val (.ref b15), .val (.ref b24), .val vr33, .val .null, .val vt37, .val (.ref o39), .val (.int (1 : Int32)), .val (.ref b47), .unset] [(.ref a_EMPTY_LIST), (.ref b47), vr33, (.ref b58), (.ref b58)])) _
        refine XS.aload X67.here hx rfl (hb hby at_180) rfl rfl ?_
        show Steps p.tables e below (T67.setTop (mkF m 182 #[.val (.int p1), .val (.int p2), .val (.int p3), .val (.int p4), .val (.ref b1), .val (.ref b15), .val (.ref b24), .val vr33, .val .null, .val vt37, .val (.ref o39), .val (.int (1 : Int32)), .val (.ref b47), .unset] [(.ref o39), (.ref a_EMPTY_LIST), (.ref b47), vr33, (.ref b58), (.ref b58)])) _
        refine st70.trans ?_
        show Steps p.tables e below (T70.setTop (mkF m 185 #[.val (.int p1), .val (.int p2), .val (.int p3), .val (.int p4), .val (.ref b1), .val (.ref b15), .val (.ref b24), .val vr33, .val .null, .val vt37, .val (.ref o39), .val (.int (1 : Int32)), .val (.ref b47), .unset] [(.ref a_EMPTY_LIST), (.ref a_EMPTY_LIST), (.ref b47), vr33, (.ref b58), (.ref b58)])) _
        refine XS.aload X70.here hx rfl (hb hby at_185) rfl rfl ?_
        show Steps p.tables e below (T70.setTop (mkF m 187 #[.val (.int p1), .val (.int p2), .val (.int p3), .val (.int p4), .val (.ref b1), .val (.ref b15), .val (.ref b24), .val vr33, .val .null, .val vt37, .val (.ref o39), .val (.int (1 : Int32)), .val (.ref b47), .unset] [(.ref o39), (.ref a_EMPTY_LIST), (.ref a_EMPTY_LIST), (.ref b47), vr33, (.ref b58), (.ref b58)])) _
        refine st72.trans ?_
        show Steps p.tables e below (T72.setTop (mkF m 190 #[.val (.int p1), .val (.int p2), .val (.int p3), .val (.int p4), .val (.ref b1), .val (.ref b15), .val (.ref b24), .val vr33, .val .null, .val vt37, .val (.ref o39), .val (.int (1 : Int32)), .val (.ref b47), .unset] [(.ref a_EMPTY_SET), (.ref a_EMPTY_LIST), (.ref a_EMPTY_LIST), (.ref b47), vr33, (.ref b58), (.ref b58)])) _
        refine st75.trans ?_
        show Steps p.tables e below (T75.setTop (mkF m 193 #[.val (.int p1), .val (.int p2), .val (.int p3), .val (.int p4), .val (.ref b1), .val (.ref b15), .val (.ref b24), .val vr33, .val .null, .val vt37, .val (.ref o39), .val (.int (1 : Int32)), .val (.ref b47), .unset] [(.ref b58)])) _
        refine XS.astore X75.here hx rfl (hb hby at_193) rfl rfl (l' := #[.val (.int p1), .val (.int p2), .val (.int p3), .val (.int p4), .val (.ref b1), .val (.ref b15), .val (.ref b24), .val vr33, .val .null, .val vt37, .val (.ref o39), .val (.int (1 : Int32)), .val (.ref b47), .val (.ref b58)]) rfl ?_
        show Steps p.tables e below (T75.setTop (mkF m 195 #[.val (.int p1), .val (.int p2), .val (.int p3), .val (.int p4), .val (.ref b1), .val (.ref b15), .val (.ref b24), .val vr33, .val .null, .val vt37, .val (.ref o39), .val (.int (1 : Int32)), .val (.ref b47), .val (.ref b58)] [])) _
        refine XS.iload X75.here hx rfl (hb hby at_195) rfl ?_
        show Steps p.tables e below (T75.setTop (mkF m 197 #[.val (.int p1), .val (.int p2), .val (.int p3), .val (.int p4), .val (.ref b1), .val (.ref b15), .val (.ref b24), .val vr33, .val .null, .val vt37, .val (.ref o39), .val (.int (1 : Int32)), .val (.ref b47), .val (.ref b58)] [(.int (1 : Int32))])) _
        refine XS.ifNo X75.here hx rfl (hb hby at_197) rfl (by decide) ?_
        show Steps p.tables e below (T75.setTop (mkF m 200 #[.val (.int p1), .val (.int p2), .val (.int p3), .val (.int p4), .val (.ref b1), .val (.ref b15), .val (.ref b24), .val vr33, .val .null, .val vt37, .val (.ref o39), .val (.int (1 : Int32)), .val (.ref b47), .val (.ref b58)] [])) _
        refine XS.aload X75.here hx rfl (hb hby at_200) rfl rfl ?_
        show Steps p.tables e below (T75.setTop (mkF m 202 #[.val (.int p1), .val (.int p2), .val (.int p3), .val (.int p4), .val (.ref b1), .val (.ref b15), .val (.ref b24), .val vr33, .val .null, .val vt37, .val (.ref o39), .val (.int (1 : Int32)), .val (.ref b47), .val (.ref b58)] [(.ref b58)])) _
        refine st78.trans ?_
        show Steps p.tables e below (T78.setTop (mkF m 205 #[.val (.int p1), .val (.int p2), .val (.int p3), .val (.int p4), .val (.ref b1), .val (.ref b15), .val (.ref b24), .val vr33, .val .null, .val vt37, .val (.ref o39), .val (.int (1 : Int32)), .val (.ref b47), .val (.ref b58)] [(.int (0 : Int32))])) _
        refine XS.ifNo X78.here hx rfl (hb hby at_205) rfl (by decide) ?_
        show Steps p.tables e below (T78.setTop (mkF m 208 #[.val (.int p1), .val (.int p2), .val (.int p3), .val (.int p4), .val (.ref b1), .val (.ref b15), .val (.ref b24), .val vr33, .val .null, .val vt37, .val (.ref o39), .val (.int (1 : Int32)), .val (.ref b47), .val (.ref b58)] [])) _
        refine XS.aload X78.here hx rfl (hb hby at_208) rfl rfl ?_
        show Steps p.tables e below (T78.setTop (mkF m 210 #[.val (.int p1), .val (.int p2), .val (.int p3), .val (.int p4), .val (.ref b1), .val (.ref b15), .val (.ref b24), .val vr33, .val .null, .val vt37, .val (.ref o39), .val (.int (1 : Int32)), .val (.ref b47), .val (.ref b58)] [(.ref b58)])) _
        refine st79.trans ?_
        show Steps p.tables e below (T79.setTop (mkF m 213 #[.val (.int p1), .val (.int p2), .val (.int p3), .val (.int p4), .val (.ref b1), .val (.ref b15), .val (.ref b24), .val vr33, .val .null, .val vt37, .val (.ref o39), .val (.int (1 : Int32)), .val (.ref b47), .val (.ref b58)] [.null])) _
        refine XS.ifnonnullNo X79.here hx rfl (hb hby at_213) rfl ?_
        show Steps p.tables e below (T79.setTop (mkF m 216 #[.val (.int p1), .val (.int p2), .val (.int p3), .val (.int p4), .val (.ref b1), .val (.ref b15), .val (.ref b24), .val vr33, .val .null, .val vt37, .val (.ref o39), .val (.int (1 : Int32)), .val (.ref b47), .val (.ref b58)] [])) _
        refine XT.iconstV X79.here hx rfl (1 : Int32) (hb hby at_216) (by decide) ?_
        show Steps p.tables e below (T79.setTop (mkF m 217 #[.val (.int p1), .val (.int p2), .val (.int p3), .val (.int p4), .val (.ref b1), .val (.ref b15), .val (.ref b24), .val vr33, .val .null, .val vt37, .val (.ref o39), .val (.int (1 : Int32)), .val (.ref b47), .val (.ref b58)] [(.int (1 : Int32))])) _
        refine XS.goto X79.here hx rfl (pc0 := 217) (pc' := 221) rfl (hb hby at_217) (by decide) (by decide) ?_
        show Steps p.tables e below (T79.setTop (mkF m 221 #[.val (.int p1), .val (.int p2), .val (.int p3), .val (.int p4), .val (.ref b1), .val (.ref b15), .val (.ref b24), .val vr33, .val .null, .val vt37, .val (.ref o39), .val (.int (1 : Int32)), .val (.ref b47), .val (.ref b58)] [(.int (1 : Int32))])) _
        refine XS.istore X79.here hx rfl (hb hby at_221) rfl (l' := #[.val (.int p1), .val (.int p2), .val (.int p3), .val (.int p4), .val (.ref b1), .val (.ref b15), .val (.ref b24), .val vr33, .val .null, .val vt37, .val (.ref o39), .val (.int (1 : Int32)), .val (.ref b47), .val (.ref b58)]) rfl ?_
        show Steps p.tables e below (T79.setTop (mkF m 223 #[.val (.int p1), .val (.int p2), .val (.int p3), .val (.int p4), .val (.ref b1), .val (.ref b15), .val (.ref b24), .val vr33, .val .null, .val vt37, .val (.ref o39), .val (.int (1 : Int32)), .val (.ref b47), .val (.ref b58)] [])) _
        refine XS.iload X79.here hx rfl (hb hby at_223) rfl ?_
        exact k_
      obtain ⟨fs, hr, hrun, hended, hW, hsame⟩ := X79.leave (v := (some (.int (1 : Int32)))) (fun h => by rw [Bd.returns] at h; cases h)
      refine ⟨_, _, S80 _ ((retN X79 hx (t := .boolean) Bd.returns (by simp) (hb hby at_225) hr)), hrun, hended, _, _, rfl, ?_, ⟨_, rfl⟩, hW, hsame.mono (by decide) (by decide)⟩
      show Q_law Z p1 p2 p3 p4 cz a_EMPTY_LIST a_EMPTY_SET a_DEFAULTCAPACITY_EMPTY_ELEMENTDATA a_EMPTY k_a_DEFAULTCAPACITY_EMPTY_ELEMENTDATA mO h0 n0 _ T79.heap _
      rw [Kq79]
      exact ⟨rfl, N79⟩
    · -- ¬ (p4 &&& (8 : Int32)) = (0 : Int32)
      have f81 := ((((p14_0.keep Kq23).keep Kq38).ext E47).keep Kq51)
      obtain ⟨cq82, kq82, q82a, q82b, q82c⟩ := isOf hZ rfl p51_0
      obtain ⟨_, _, ⟨T82, L82, k82, n82⟩, -, X82, ⟨Lc82, hQ82, l82, y82, z82⟩, st82⟩ := X51.virtualBack hx (y := (⟨"java/util/ArrayList", "add", "(Ljava/lang/Object;)Z"⟩ : MethodName)) (z := (⟨"java/util/ArrayList", "add", "(Ljava/lang/Object;)Z"⟩ : MethodName)) hown (mvT hZ (tw171 hw)) (mvT hZ (tw172 hw)) (notFace_of_selects (args := #[]) (mvT hZ (tw174 hw))) (mvT hZ (tw174 hw)) (mvT hZ (tw173 hw)) (by decide) (backOf (W := 0) (rm_add1 l Z a0 hw [] b47 b15 (0 : Int32) a_DEFAULTCAPACITY_EMPTY_ELEMENTDATA k_a_DEFAULTCAPACITY_EMPTY_ELEMENTDATA T51.heap n0 (by omega) O51 p51_0 f81 p51_1 p51_2 p51_3 (by omega) S_DEFAULTCAPACITY_EMPTY_ELEMENTDATA E_a_DEFAULTCAPACITY_EMPTY_ELEMENTDATA A_a_DEFAULTCAPACITY_EMPTY_ELEMENTDATA) hZ (tw175 hw) (tw116 hw) (by decide) (by decide)) q82a q82c (g := (mkF m 163 #[.val (.int p1), .val (.int p2), .val (.int p3), .val (.int p4), .val (.ref b1), .val (.ref b15), .val (.ref b24), .val vr33, .val .null, .val vt37, .val (.ref o39), .val (.int (1 : Int32)), .val (.ref b47), .unset] [(.ref b15), (.ref b47)])) rfl (by rw [hml]; rfl) (Steps.refl _) (argsL := [(.ref b15)]) (rest := []) (lenOf pd24 rfl) rfl (by show 2 * 0 + _ ≤ _; exact Nat.le_of_eq rfl) (hb hby at_163) (fun _ _ => ⟨rfl, rfl, (by decide : 9 + 1 ≤ _), (by decide : 28 + 10 ≤ _)⟩)
      dsimp only [Pt.U, Pt.locs, Pt.cells, Pt.slots] at X82 l82 y82 z82 st82 hQ82
      subst l82 y82 z82
      obtain ⟨b83, kb84, rfl, N82q, Kq82, p82_0, p82_1, p82_2, p82_3, p82_4, p82_5, p82_6⟩ := hQ82
      have N82 := Fr.app N51 N82q
      have z82 := Kq82.1
      have O82 := O51.keep Kq82 (allS (by omega) all0)
      have lq85 : (b47 : Nat) < (T82.heap.size : Nat) := p82_0.lt
      have lq86 : (b47 : Nat) < (T82.heap.size : Nat) := p82_1.lt
      have lq87 : (b47 : Nat) < (T82.heap.size : Nat) := p82_2.lt
      have lq88 : (b47 : Nat) < (T82.heap.size : Nat) := p82_3.lt
      have lq89 : (b83 : Nat) < (T82.heap.size : Nat) := p82_4.lt
      have lq90 : (b83 : Nat) < (T82.heap.size : Nat) := p82_5.lt
      have bq82 := p82_6
      obtain ⟨T91, h91, X91, e91, E91, A91, D91, -, st91⟩ := newO X82 hx hZ hown (tw138 hw) (tw49 hw) (tw46 hw) rfl (g := (mkF m 167 #[.val (.int p1), .val (.int p2), .val (.int p3), .val (.int p4), .val (.ref b1), .val (.ref b15), .val (.ref b24), .val vr33, .val .null, .val vt37, .val (.ref o39), .val (.int (1 : Int32)), .val (.ref b47), .unset] [])) rfl (hb hby at_167) (by decide) (by decide)
      obtain ⟨b91, g91⟩ : ∃ z, z = T82.heap.size := ⟨_, rfl⟩
      rw [← g91] at A91 D91 st91
      have lb91 : (b91 : Nat) < (h91.size : Nat) := A91.lt
      have z91 := E91.1
      have O91 := O82.ext E91
      have f92 : Fld Z h91 b91 "com/example/fetcher/client/Received" "replyTo" "Ljava/lang/String;" .null := D91 (Or.inr (tw66 hw)) (ty := (.object "java/lang/String")) (by decide)
      have f93 : Fld Z h91 b91 "com/example/fetcher/client/Received" "errorCode" "Ljava/lang/String;" .null := D91 (Or.inr (tw68 hw)) (ty := (.object "java/lang/String")) (by decide)
      have f94 : Fld Z h91 b91 "com/example/fetcher/client/Received" "errorText" "Ljava/lang/String;" .null := D91 (Or.inr (tw70 hw)) (ty := (.object "java/lang/String")) (by decide)
      have f95 : Fld Z h91 b91 "com/example/fetcher/client/Received" "resources" "Ljava/util/List;" .null := D91 (Or.inr (tw90 hw)) (ty := (.object "java/util/List")) (by decide)
      have f96 : Fld Z h91 b91 "com/example/fetcher/client/Received" "returned" "Ljava/util/List;" .null := D91 (Or.inr (tw92 hw)) (ty := (.object "java/util/List")) (by decide)
      have f97 : Fld Z h91 b91 "com/example/fetcher/client/Received" "told" "Ljava/util/List;" .null := D91 (Or.inr (tw94 hw)) (ty := (.object "java/util/List")) (by decide)
      have f98 : Fld Z h91 b91 "com/example/fetcher/client/Received" "versions" "Ljava/util/Set;" .null := D91 (Or.inr (tw103 hw)) (ty := (.object "java/util/Set")) (by decide)
      have f99 := ((((p38_2.ext E47).keep Kq51 (ninS (by omega : (o39 : Nat) ≠ (b47 : Nat)) nin0)).keep Kq82 (ninS (by omega : (o39 : Nat) ≠ (b47 : Nat)) nin0)).ext E91)
      have f101 := ((((p38_0.ext E47).keep Kq51).keep Kq82).ext E91)
      obtain ⟨cq100, kq100, q100a, q100b, q100c⟩ := isOf hZ e91 f101
      obtain ⟨_, _, ⟨T100, L100, k100, n100⟩, -, X100, ⟨Lc100, hQ100, l100, y100, z100⟩, st100⟩ := X91.virtualBack hx (y := (⟨"com/example/fetcher/client/Received", "returned", "()Ljava/util/List;"⟩ : MethodName)) (z := (⟨"com/example/fetcher/client/Received", "returned", "()Ljava/util/List;"⟩ : MethodName)) hown (mvT hZ (tw139 hw)) (mvT hZ (tw140 hw)) (notFace_of_selects (args := #[]) (mvT hZ (tw142 hw))) (mvT hZ (tw142 hw)) (mvT hZ (tw141 hw)) (by decide) (backOf (W := 4) (rm_gre l Z a0 hw [] o39 a_EMPTY_LIST h91 n0 (by omega) O91 f99) hZ (tw143 hw) (tw46 hw) (by decide) (by decide)) q100a q100c (g := (mkF m 177 #[.val (.int p1), .val (.int p2), .val (.int p3), .val (.int p4), .val (.ref b1), .val (.ref b15), .val (.ref b24), .val vr33, .val .null, .val vt37, .val (.ref o39), .val (.int (1 : Int32)), .val (.ref b47), .unset] [(.ref o39), (.ref b47), vr33, (.ref b91), (.ref b91)])) rfl (by rw [hml]; rfl) (Steps.refl _) (argsL := []) (rest := [(.ref b47), vr33, (.ref b91), (.ref b91)]) (lenOf pd14 rfl) rfl (by simp [own_cR, own_cI, own_cJ, own_cN, own_cat i33]) (hb hby at_177) (fun _ _ => ⟨rfl, e91, (by decide : 11 + 0 ≤ _), (by decide : 45 + 0 ≤ _)⟩)
      dsimp only [Pt.U, Pt.locs, Pt.cells, Pt.slots] at X100 l100 y100 z100 st100 hQ100
      subst l100 y100 z100
      obtain ⟨rfl, N100q, Kq100⟩ := hQ100
      have N100 := Fr.app N82 N100q
      have f102 := ((((p38_3.ext E47).keep Kq51 (ninS (by omega : (o39 : Nat) ≠ (b47 : Nat)) nin0)).keep Kq82 (ninS (by omega : (o39 : Nat) ≠ (b47 : Nat)) nin0)).ext E91)
      obtain ⟨cq103, kq103, q103a, q103b, q103c⟩ := isOf hZ Kq100 f101
      obtain ⟨_, _, ⟨T103, L103, k103, n103⟩, -, X103, ⟨Lc103, hQ103, l103, y103, z103⟩, st103⟩ := X100.virtualBack hx (y := (⟨"com/example/fetcher/client/Received", "told", "()Ljava/util/List;"⟩ : MethodName)) (z := (⟨"com/example/fetcher/client/Received", "told", "()Ljava/util/List;"⟩ : MethodName)) hown (mvT hZ (tw144 hw)) (mvT hZ (tw145 hw)) (notFace_of_selects (args := #[]) (mvT hZ (tw147 hw))) (mvT hZ (tw147 hw)) (mvT hZ (tw146 hw)) (by decide) (backOf (W := 5) (rm_gto l Z a0 hw [] o39 a_EMPTY_LIST h91 n0 (by omega) O91 f102) hZ (tw148 hw) (tw46 hw) (by decide) (by decide)) q103a q103c (g := (mkF m 182 #[.val (.int p1), .val (.int p2), .val (.int p3), .val (.int p4), .val (.ref b1), .val (.ref b15), .val (.ref b24), .val vr33, .val .null, .val vt37, .val (.ref o39), .val (.int (1 : Int32)), .val (.ref b47), .unset] [(.ref o39), (.ref a_EMPTY_LIST), (.ref b47), vr33, (.ref b91), (.ref b91)])) rfl (by rw [hml]; rfl) (Steps.refl _) (argsL := []) (rest := [(.ref a_EMPTY_LIST), (.ref b47), vr33, (.ref b91), (.ref b91)]) (lenOf pd14 rfl) rfl (by simp [own_cR, own_cI, own_cJ, own_cN, own_cat i33]) (hb hby at_182) (fun _ _ => ⟨rfl, Kq100, (by decide : 11 + 0 ≤ _), (by decide : 45 + 0 ≤ _)⟩)
      dsimp only [Pt.U, Pt.locs, Pt.cells, Pt.slots] at X103 l103 y103 z103 st103 hQ103
      subst l103 y103 z103
      obtain ⟨rfl, N103q, Kq103⟩ := hQ103
      have N103 := Fr.app N100 N103q
      have f104 := ((((p38_4.ext E47).keep Kq51 (ninS (by omega : (o39 : Nat) ≠ (b47 : Nat)) nin0)).keep Kq82 (ninS (by omega : (o39 : Nat) ≠ (b47 : Nat)) nin0)).ext E91)
      obtain ⟨cq105, kq105, q105a, q105b, q105c⟩ := isOf hZ Kq103 f101
      obtain ⟨_, _, ⟨T105, L105, k105, n105⟩, -, X105, ⟨Lc105, hQ105, l105, y105, z105⟩, st105⟩ := X103.virtualBack hx (y := (⟨"com/example/fetcher/client/Received", "versions", "()Ljava/util/Set;"⟩ : MethodName)) (z := (⟨"com/example/fetcher/client/Received", "versions", "()Ljava/util/Set;"⟩ : MethodName)) hown (mvT hZ (tw149 hw)) (mvT hZ (tw150 hw)) (notFace_of_selects (args := #[]) (mvT hZ (tw152 hw))) (mvT hZ (tw152 hw)) (mvT hZ (tw151 hw)) (by decide) (backOf (W := 6) (rm_gve l Z a0 hw [] o39 a_EMPTY_SET h91 n0 (by omega) O91 f104) hZ (tw153 hw) (tw46 hw) (by decide) (by decide)) q105a q105c (g := (mkF m 187 #[.val (.int p1), .val (.int p2), .val (.int p3), .val (.int p4), .val (.ref b1), .val (.ref b15), .val (.ref b24), .val vr33, .val .null, .val vt37, .val (.ref o39), .val (.int (1 : Int32)), .val (.ref b47), .unset] [(.ref o39), (.ref a_EMPTY_LIST), (.ref a_EMPTY_LIST), (.ref b47), vr33, (.ref b91), (.ref b91)])) rfl (by rw [hml]; rfl) (Steps.refl _) (argsL := []) (rest := [(.ref a_EMPTY_LIST), (.ref a_EMPTY_LIST), (.ref b47), vr33, (.ref b91), (.ref b91)]) (lenOf pd17 rfl) rfl (by simp [own_cR, own_cI, own_cJ, own_cN, own_cat i33]) (hb hby at_187) (fun _ _ => ⟨rfl, Kq103, (by decide : 11 + 0 ≤ _), (by decide : 45 + 0 ≤ _)⟩)
      dsimp only [Pt.U, Pt.locs, Pt.cells, Pt.slots] at X105 l105 y105 z105 st105 hQ105
      subst l105 y105 z105
      obtain ⟨rfl, N105q, Kq105⟩ := hQ105
      have N105 := Fr.app N103 N105q
      have f106 := (p82_0.ext E91)
      have f107 := (p82_2.ext E91)
      have f108 := (p82_3.ext E91)
      have f109 := (p82_4.ext E91)
      have f110 := (p82_5.ext E91)
      have f111 := ((f81.keep Kq82).ext E91)
      obtain ⟨_, _, ⟨T112, L112, k112, n112⟩, -, X112, ⟨Lc112, hQ112, l112, y112, z112⟩, st112⟩ := X105.specialBack hx (y := (⟨"com/example/fetcher/client/Received", "<init>", "(Ljava/lang/String;Ljava/util/List;Ljava/util/List;Ljava/util/List;Ljava/util/Set;)V"⟩ : MethodName)) rfl hown (mvT hZ (tw154 hw)) (mvT hZ (tw155 hw)) (mvT hZ (tw156 hw)) (by decide) (backOf (W := 1) (rm_r51 l Z a0 hw [] b91 vr33 b47 b83 b15 kb84 mO a_EMPTY .null .null .null .null .null .null .null a_EMPTY_LIST a_EMPTY_SET h91 n0 (by omega) O91 A91 f92 f93 f94 f95 f96 f97 f98 i33 (by omega) (by omega : (b47 : Nat) ≠ (b91 : Nat)) (by omega : (b83 : Nat) ≠ (b91 : Nat)) (by omega : (b15 : Nat) ≠ (b91 : Nat)) f106 f107 f108 f109 f110 f111 (by first | assumption | omega | decide) S_EMPTY E_a_EMPTY_LIST F_a_EMPTY_LIST_allowNulls E_a_EMPTY_SET) hZ (tw156 hw) (tw46 hw) (by decide) (by decide)) (g := (mkF m 190 #[.val (.int p1), .val (.int p2), .val (.int p3), .val (.int p4), .val (.ref b1), .val (.ref b15), .val (.ref b24), .val vr33, .val .null, .val vt37, .val (.ref o39), .val (.int (1 : Int32)), .val (.ref b47), .unset] [(.ref a_EMPTY_SET), (.ref a_EMPTY_LIST), (.ref a_EMPTY_LIST), (.ref b47), vr33, (.ref b91), (.ref b91)])) rfl (by rw [hml]; rfl) (Steps.refl _) (a := b91) (argsL := [vr33, (.ref b47), (.ref a_EMPTY_LIST), (.ref a_EMPTY_LIST), (.ref a_EMPTY_SET)]) (rest := [(.ref b91)]) (lenOf pd23 rfl) rfl (by show 2 * 0 + _ ≤ _; exact Nat.le_of_eq rfl) (hb hby at_190) (fun _ _ => ⟨rfl, Kq105, (by decide : 11 + 2 ≤ _), (by decide : 45 + 3 ≤ _)⟩)
      dsimp only [Pt.U, Pt.locs, Pt.cells, Pt.slots] at X112 l112 y112 z112 st112 hQ112
      subst l112 y112 z112
      obtain ⟨rfl, N112q, Kq112, p112_0, p112_1⟩ := hQ112
      have N112 := Fr.app N105 N112q
      have z112 := Kq112.1
      have O112 := O91.keep Kq112 (allS (by omega) all0)
      have lq113 : (b91 : Nat) < (T112.heap.size : Nat) := p112_0.lt
      have lq114 : (b91 : Nat) < (T112.heap.size : Nat) := p112_1.lt
      obtain ⟨cq115, kq115, q115a, q115b, q115c⟩ := isOf hZ rfl p112_0
      obtain ⟨_, _, ⟨T115, L115, k115, n115⟩, -, X115, ⟨Lc115, hQ115, l115, y115, z115⟩, st115⟩ := X112.virtualBack hx (y := (⟨"com/example/fetcher/client/Received", "isError", "()Z"⟩ : MethodName)) (z := (⟨"com/example/fetcher/client/Received", "isError", "()Z"⟩ : MethodName)) hown (mvT hZ (tw104 hw)) (mvT hZ (tw105 hw)) (notFace_of_selects (args := #[]) (mvT hZ (tw107 hw))) (mvT hZ (tw107 hw)) (mvT hZ (tw106 hw)) (by decide) (backOf (W := 0) (rm_ieN l Z a0 hw [] b91 T112.heap n0 (by omega) O112 p112_1) hZ (tw108 hw) (tw46 hw) (by decide) (by decide)) q115a q115c (g := (mkF m 202 #[.val (.int p1), .val (.int p2), .val (.int p3), .val (.int p4), .val (.ref b1), .val (.ref b15), .val (.ref b24), .val vr33, .val .null, .val vt37, .val (.ref o39), .val (.int (1 : Int32)), .val (.ref b47), .val (.ref b91)] [(.ref b91)])) rfl (by rw [hml]; rfl) (Steps.refl _) (argsL := []) (rest := []) (lenOf pd13 rfl) rfl (by show 2 * 0 + _ ≤ _; exact Nat.le_of_eq rfl) (hb hby at_202) (fun _ _ => ⟨rfl, rfl, (by decide : 13 + 0 ≤ _), (by decide : 48 + 0 ≤ _)⟩)
      dsimp only [Pt.U, Pt.locs, Pt.cells, Pt.slots] at X115 l115 y115 z115 st115 hQ115
      subst l115 y115 z115
      obtain ⟨rfl, N115q, Kq115⟩ := hQ115
      have N115 := Fr.app N112 N115q
      obtain ⟨cq116, kq116, q116a, q116b, q116c⟩ := isOf hZ Kq115 p112_0
      obtain ⟨_, _, ⟨T116, L116, k116, n116⟩, -, X116, ⟨Lc116, hQ116, l116, y116, z116⟩, st116⟩ := X115.virtualBack hx (y := (⟨"com/example/fetcher/client/Received", "errorCode", "()Ljava/lang/String;"⟩ : MethodName)) (z := (⟨"com/example/fetcher/client/Received", "errorCode", "()Ljava/lang/String;"⟩ : MethodName)) hown (mvT hZ (tw109 hw)) (mvT hZ (tw110 hw)) (notFace_of_selects (args := #[]) (mvT hZ (tw112 hw))) (mvT hZ (tw112 hw)) (mvT hZ (tw111 hw)) (by decide) (backOf (W := 0) (rm_ecN l Z a0 hw [] b91 T112.heap n0 (by omega) O112 p112_1) hZ (tw113 hw) (tw46 hw) (by decide) (by decide)) q116a q116c (g := (mkF m 210 #[.val (.int p1), .val (.int p2), .val (.int p3), .val (.int p4), .val (.ref b1), .val (.ref b15), .val (.ref b24), .val vr33, .val .null, .val vt37, .val (.ref o39), .val (.int (1 : Int32)), .val (.ref b47), .val (.ref b91)] [(.ref b91)])) rfl (by rw [hml]; rfl) (Steps.refl _) (argsL := []) (rest := []) (lenOf pd22 rfl) rfl (by show 2 * 0 + _ ≤ _; exact Nat.le_of_eq rfl) (hb hby at_210) (fun _ _ => ⟨rfl, Kq115, (by decide : 13 + 0 ≤ _), (by decide : 48 + 0 ≤ _)⟩)
      dsimp only [Pt.U, Pt.locs, Pt.cells, Pt.slots] at X116 l116 y116 z116 st116 hQ116
      subst l116 y116 z116
      obtain ⟨rfl, N116q, Kq116⟩ := hQ116
      have N116 := Fr.app N115 N116q
      have S117 : ∀ t_, Steps p.tables e below (T116.setTop (mkF m 225 #[.val (.int p1), .val (.int p2), .val (.int p3), .val (.int p4), .val (.ref b1), .val (.ref b15), .val (.ref b24), .val vr33, .val .null, .val vt37, .val (.ref o39), .val (.int (1 : Int32)), .val (.ref b47), .val (.ref b91)] [(.int (1 : Int32))])) t_ → Steps p.tables e below (s₁.setTop (entryFrame m #[(.int p1), (.int p2), (.int p3), (.int p4)] maxLocals)) t_ := by
        intro t_ k_
        refine S56 t_ ?_
        show Steps p.tables e below (T51.setTop (mkF m 156 #[.val (.int p1), .val (.int p2), .val (.int p3), .val (.int p4), .val (.ref b1), .val (.ref b15), .val (.ref b24), .val vr33, .val .null, .val vt37, .val (.ref o39), .val (.int (1 : Int32)), .val (.ref b47), .unset] [(.int (p4 &&& (8 : Int32)))])) _
        refine XS.ifNo X51.here hx rfl (hb hby at_156) rfl ((if0 _ _).trans (feq cnd57).1) ?_
        show Steps p.tables e below (T51.setTop (mkF m 159 #[.val (.int p1), .val (.int p2), .val (.int p3), .val (.int p4), .val (.ref b1), .val (.ref b15), .val (.ref b24), .val vr33, .val .null, .val vt37, .val (.ref o39), .val (.int (1 : Int32)), .val (.ref b47), .unset] [])) _
        refine XS.aload X51.here hx rfl (hb hby at_159) rfl rfl ?_
        show Steps p.tables e below (T51.setTop (mkF m 161 #[.val (.int p1), .val (.int p2), .val (.int p3), .val (.int p4), .val (.ref b1), .val (.ref b15), .val (.ref b24), .val vr33, .val .null, .val vt37, .val (.ref o39), .val (.int (1 : Int32)), .val (.ref b47), .unset] [(.ref b47)])) _
        refine XS.aload X51.here hx rfl (hb hby at_161) rfl rfl ?_
        show Steps p.tables e below (T51.setTop (mkF m 163 #[.val (.int p1), .val (.int p2), .val (.int p3), .val (.int p4), .val (.ref b1), .val (.ref b15), .val (.ref b24), .val vr33, .val .null, .val vt37, .val (.ref o39), .val (.int (1 : Int32)), .val (.ref b47), .unset] [(.ref b15), (.ref b47)])) _
        refine st82.trans ?_
        show Steps p.tables e below (T82.setTop (mkF m 166 #[.val (.int p1), .val (.int p2), .val (.int p3), .val (.int p4), .val (.ref b1), .val (.ref b15), .val (.ref b24), .val vr33, .val .null, .val vt37, .val (.ref o39), .val (.int (1 : Int32)), .val (.ref b47), .unset] [(.int (1 : Int32))])) _
        refine XS.pop X82.here hx rfl (hb hby at_166) rfl rfl ?_
        show Steps p.tables e below (T82.setTop (mkF m 167 #[.val (.int p1), .val (.int p2), .val (.int p3), .val (.int p4), .val (.ref b1), .val (.ref b15), .val (.ref b24), .val vr33, .val .null, .val vt37, .val (.ref o39), .val (.int (1 : Int32)), .val (.ref b47), .unset] [])) _
        refine st91 _ ?_
        show Steps p.tables e below (T91.setTop (mkF m 170 #[.val (.int p1), .val (.int p2), .val (.int p3), .val (.int p4), .val (.ref b1), .val (.ref b15), .val (.ref b24), .val vr33, .val .null, .val vt37, .val (.ref o39), .val (.int (1 : Int32)), .val (.ref b47), .unset] [(.ref b91)])) _
        refine XS.dup X91.here hx rfl (hb hby at_170) rfl rfl ?_
        show Steps p.tables e below (T91.setTop (mkF m 171 #[.val (.int p1), .val (.int p2), .val (.int p3), .val (.int p4), .val (.ref b1), .val (.ref b15), .val (.ref b24), .val vr33, .val .null, .val vt37, .val (.ref o39), .val (.int (1 : Int32)), .val (.ref b47), .unset] [(.ref b91), (.ref b91)])) _
        refine XS.aload X91.here hx rfl (hb hby at_171) rfl i33 ?_
        show Steps p.tables e below (T91.setTop (mkF m 173 #[.val (.int p1), .val (.int p2), .val (.int p3), .val (.int p4), .val (.ref b1), .val (.ref b15), .val (.ref b24), .val vr33, .val .null, .val vt37, .val (.ref o39), .val (.int (1 : Int32)), .val (.ref b47), .unset] [vr33, (.ref b91), (.ref b91)])) _
        refine XS.aload X91.here hx rfl (hb hby at_173) rfl rfl ?_
        show Steps p.tables e below (T91.setTop (mkF m 175 #[.val (.int p1), .val (.int p2), .val (.int p3), .val (.int p4), .val (.ref b1), .val (.ref b15), .val (.ref b24), .val vr33, .val .null, .val vt37, .val (.ref o39), .val (.int (1 : Int32)), .val (.ref b47), .unset] [(.ref b47), vr33, (.ref b91), (.ref b91)])) _
        refine XS.aload X91.here hx rfl (hb hby at_175) rfl rfl ?_
        show Steps p.tables e below (T91.setTop (mkF m 177 #[.val (.int p1), .val (.int p2), .val (.int p3), .val (.int p4), .val (.ref b1), .val (.ref b15), .val (.ref b24), .val vr33, .val .null, .val vt37, .val (.ref o39), .val (.int (1 : Int32)), .val (.ref b47), .unset] [(.ref o39), (.ref b47), vr33, (.ref b91), (.ref b91)])) _
        refine st100.trans ?_
        show Steps p.tables e below (T100.setTop (mkF m 180 #[.val (.int p1), .val (.int p2), .val (.int p3), .val (.int p4), .val (.ref b1), .val (.ref b15), .val (.ref b24), .val vr33, .val .null, .val vt37, .val (.ref o39), .val (.int (1 : Int32)), .val (.ref b47), .unset] [(.ref a_EMPTY_LIST), (.ref b47), vr33, (.ref b91), (.ref b91)])) _
        refine XS.aload X100.here hx rfl (hb hby at_180) rfl rfl ?_
        show Steps p.tables e below (T100.setTop (mkF m 182 #[.val (.int p1), .val (.int p2), .val (.int p3), .val (.int p4), .val (.ref b1), .val (.ref b15), .val (.ref b24), .val vr33, .val .null, .val vt37, .val (.ref o39), .val (.int (1 : Int32)), .val (.ref b47), .unset] [(.ref o39), (.ref a_EMPTY_LIST), (.ref b47), vr33, (.ref b91), (.ref b91)])) _
        refine st103.trans ?_
        show Steps p.tables e below (T103.setTop (mkF m 185 #[.val (.int p1), .val (.int p2), .val (.int p3), .val (.int p4), .val (.ref b1), .val (.ref b15), .val (.ref b24), .val vr33, .val .null, .val vt37, .val (.ref o39), .val (.int (1 : Int32)), .val (.ref b47), .unset] [(.ref a_EMPTY_LIST), (.ref a_EMPTY_LIST), (.ref b47), vr33, (.ref b91), (.ref b91)])) _
        refine XS.aload X103.here hx rfl (hb hby at_185) rfl rfl ?_
        show Steps p.tables e below (T103.setTop (mkF m 187 #[.val (.int p1), .val (.int p2), .val (.int p3), .val (.int p4), .val (.ref b1), .val (.ref b15), .val (.ref b24), .val vr33, .val .null, .val vt37, .val (.ref o39), .val (.int (1 : Int32)), .val (.ref b47), .unset] [(.ref o39), (.ref a_EMPTY_LIST), (.ref a_EMPTY_LIST), (.ref b47), vr33, (.ref b91), (.ref b91)])) _
        refine st105.trans ?_
        show Steps p.tables e below (T105.setTop (mkF m 190 #[.val (.int p1), .val (.int p2), .val (.int p3), .val (.int p4), .val (.ref b1), .val (.ref b15), .val (.ref b24), .val vr33, .val .null, .val vt37, .val (.ref o39), .val (.int (1 : Int32)), .val (.ref b47), .unset] [(.ref a_EMPTY_SET), (.ref a_EMPTY_LIST), (.ref a_EMPTY_LIST), (.ref b47), vr33, (.ref b91), (.ref b91)])) _
        refine st112.trans ?_
        show Steps p.tables e below (T112.setTop (mkF m 193 #[.val (.int p1), .val (.int p2), .val (.int p3), .val (.int p4), .val (.ref b1), .val (.ref b15), .val (.ref b24), .val vr33, .val .null, .val vt37, .val (.ref o39), .val (.int (1 : Int32)), .val (.ref b47), .unset] [(.ref b91)])) _
        refine XS.astore X112.here hx rfl (hb hby at_193) rfl rfl (l' := #[.val (.int p1), .val (.int p2), .val (.int p3), .val (.int p4), .val (.ref b1), .val (.ref b15), .val (.ref b24), .val vr33, .val .null, .val vt37, .val (.ref o39), .val (.int (1 : Int32)), .val (.ref b47), .val (.ref b91)]) rfl ?_
        show Steps p.tables e below (T112.setTop (mkF m 195 #[.val (.int p1), .val (.int p2), .val (.int p3), .val (.int p4), .val (.ref b1), .val (.ref b15), .val (.ref b24), .val vr33, .val .null, .val vt37, .val (.ref o39), .val (.int (1 : Int32)), .val (.ref b47), .val (.ref b91)] [])) _
        refine XS.iload X112.here hx rfl (hb hby at_195) rfl ?_
        show Steps p.tables e below (T112.setTop (mkF m 197 #[.val (.int p1), .val (.int p2), .val (.int p3), .val (.int p4), .val (.ref b1), .val (.ref b15), .val (.ref b24), .val vr33, .val .null, .val vt37, .val (.ref o39), .val (.int (1 : Int32)), .val (.ref b47), .val (.ref b91)] [(.int (1 : Int32))])) _
        refine XS.ifNo X112.here hx rfl (hb hby at_197) rfl (by decide) ?_
        show Steps p.tables e below (T112.setTop (mkF m 200 #[.val (.int p1), .val (.int p2), .val (.int p3), .val (.int p4), .val (.ref b1), .val (.ref b15), .val (.ref b24), .val vr33, .val .null, .val vt37, .val (.ref o39), .val (.int (1 : Int32)), .val (.ref b47), .val (.ref b91)] [])) _
        refine XS.aload X112.here hx rfl (hb hby at_200) rfl rfl ?_
        show Steps p.tables e below (T112.setTop (mkF m 202 #[.val (.int p1), .val (.int p2), .val (.int p3), .val (.int p4), .val (.ref b1), .val (.ref b15), .val (.ref b24), .val vr33, .val .null, .val vt37, .val (.ref o39), .val (.int (1 : Int32)), .val (.ref b47), .val (.ref b91)] [(.ref b91)])) _
        refine st115.trans ?_
        show Steps p.tables e below (T115.setTop (mkF m 205 #[.val (.int p1), .val (.int p2), .val (.int p3), .val (.int p4), .val (.ref b1), .val (.ref b15), .val (.ref b24), .val vr33, .val .null, .val vt37, .val (.ref o39), .val (.int (1 : Int32)), .val (.ref b47), .val (.ref b91)] [(.int (0 : Int32))])) _
        refine XS.ifNo X115.here hx rfl (hb hby at_205) rfl (by decide) ?_
        show Steps p.tables e below (T115.setTop (mkF m 208 #[.val (.int p1), .val (.int p2), .val (.int p3), .val (.int p4), .val (.ref b1), .val (.ref b15), .val (.ref b24), .val vr33, .val .null, .val vt37, .val (.ref o39), .val (.int (1 : Int32)), .val (.ref b47), .val (.ref b91)] [])) _
        refine XS.aload X115.here hx rfl (hb hby at_208) rfl rfl ?_
        show Steps p.tables e below (T115.setTop (mkF m 210 #[.val (.int p1), .val (.int p2), .val (.int p3), .val (.int p4), .val (.ref b1), .val (.ref b15), .val (.ref b24), .val vr33, .val .null, .val vt37, .val (.ref o39), .val (.int (1 : Int32)), .val (.ref b47), .val (.ref b91)] [(.ref b91)])) _
        refine st116.trans ?_
        show Steps p.tables e below (T116.setTop (mkF m 213 #[.val (.int p1), .val (.int p2), .val (.int p3), .val (.int p4), .val (.ref b1), .val (.ref b15), .val (.ref b24), .val vr33, .val .null, .val vt37, .val (.ref o39), .val (.int (1 : Int32)), .val (.ref b47), .val (.ref b91)] [.null])) _
        refine XS.ifnonnullNo X116.here hx rfl (hb hby at_213) rfl ?_
        show Steps p.tables e below (T116.setTop (mkF m 216 #[.val (.int p1), .val (.int p2), .val (.int p3), .val (.int p4), .val (.ref b1), .val (.ref b15), .val (.ref b24), .val vr33, .val .null, .val vt37, .val (.ref o39), .val (.int (1 : Int32)), .val (.ref b47), .val (.ref b91)] [])) _
        refine XT.iconstV X116.here hx rfl (1 : Int32) (hb hby at_216) (by decide) ?_
        show Steps p.tables e below (T116.setTop (mkF m 217 #[.val (.int p1), .val (.int p2), .val (.int p3), .val (.int p4), .val (.ref b1), .val (.ref b15), .val (.ref b24), .val vr33, .val .null, .val vt37, .val (.ref o39), .val (.int (1 : Int32)), .val (.ref b47), .val (.ref b91)] [(.int (1 : Int32))])) _
        refine XS.goto X116.here hx rfl (pc0 := 217) (pc' := 221) rfl (hb hby at_217) (by decide) (by decide) ?_
        show Steps p.tables e below (T116.setTop (mkF m 221 #[.val (.int p1), .val (.int p2), .val (.int p3), .val (.int p4), .val (.ref b1), .val (.ref b15), .val (.ref b24), .val vr33, .val .null, .val vt37, .val (.ref o39), .val (.int (1 : Int32)), .val (.ref b47), .val (.ref b91)] [(.int (1 : Int32))])) _
        refine XS.istore X116.here hx rfl (hb hby at_221) rfl (l' := #[.val (.int p1), .val (.int p2), .val (.int p3), .val (.int p4), .val (.ref b1), .val (.ref b15), .val (.ref b24), .val vr33, .val .null, .val vt37, .val (.ref o39), .val (.int (1 : Int32)), .val (.ref b47), .val (.ref b91)]) rfl ?_
        show Steps p.tables e below (T116.setTop (mkF m 223 #[.val (.int p1), .val (.int p2), .val (.int p3), .val (.int p4), .val (.ref b1), .val (.ref b15), .val (.ref b24), .val vr33, .val .null, .val vt37, .val (.ref o39), .val (.int (1 : Int32)), .val (.ref b47), .val (.ref b91)] [])) _
        refine XS.iload X116.here hx rfl (hb hby at_223) rfl ?_
        exact k_
      obtain ⟨fs, hr, hrun, hended, hW, hsame⟩ := X116.leave (v := (some (.int (1 : Int32)))) (fun h => by rw [Bd.returns] at h; cases h)
      refine ⟨_, _, S117 _ ((retN X116 hx (t := .boolean) Bd.returns (by simp) (hb hby at_225) hr)), hrun, hended, _, _, rfl, ?_, ⟨_, rfl⟩, hW, hsame.mono (by decide) (by decide)⟩
      show Q_law Z p1 p2 p3 p4 cz a_EMPTY_LIST a_EMPTY_SET a_DEFAULTCAPACITY_EMPTY_ELEMENTDATA a_EMPTY k_a_DEFAULTCAPACITY_EMPTY_ELEMENTDATA mO h0 n0 _ T116.heap _
      rw [Kq116]
      exact ⟨rfl, N116⟩
  · -- ¬ (p4 &&& (2 : Int32)) = (0 : Int32)
    have S118 : ∀ t_, Steps p.tables e below (T23.setTop (mkF m 86 #[.val (.int p1), .val (.int p2), .val (.int p3), .val (.int p4), .val (.ref b1), .val (.ref b15), .val (.ref b24), .val vr33, .val (.ref b15), .unset, .unset, .unset, .unset, .unset] [(.int (p4 &&& (4 : Int32)))])) t_ → Steps p.tables e below (s₁.setTop (entryFrame m #[(.int p1), (.int p2), (.int p3), (.int p4)] maxLocals)) t_ := by
      intro t_ k_
      refine S34 t_ ?_
      show Steps p.tables e below (T23.setTop (mkF m 72 #[.val (.int p1), .val (.int p2), .val (.int p3), .val (.int p4), .val (.ref b1), .val (.ref b15), .val (.ref b24), .val vr33, .unset, .unset, .unset, .unset, .unset, .unset] [(.int (p4 &&& (2 : Int32)))])) _
      refine XS.ifNo X23.here hx rfl (hb hby at_72) rfl ((if0 _ _).trans (feq cnd35).1) ?_
      show Steps p.tables e below (T23.setTop (mkF m 75 #[.val (.int p1), .val (.int p2), .val (.int p3), .val (.int p4), .val (.ref b1), .val (.ref b15), .val (.ref b24), .val vr33, .unset, .unset, .unset, .unset, .unset, .unset] [])) _
      refine XS.aload X23.here hx rfl (hb hby at_75) rfl rfl ?_
      show Steps p.tables e below (T23.setTop (mkF m 77 #[.val (.int p1), .val (.int p2), .val (.int p3), .val (.int p4), .val (.ref b1), .val (.ref b15), .val (.ref b24), .val vr33, .unset, .unset, .unset, .unset, .unset, .unset] [(.ref b15)])) _
      refine XS.goto X23.here hx rfl (pc0 := 77) (pc' := 81) rfl (hb hby at_77) (by decide) (by decide) ?_
      show Steps p.tables e below (T23.setTop (mkF m 81 #[.val (.int p1), .val (.int p2), .val (.int p3), .val (.int p4), .val (.ref b1), .val (.ref b15), .val (.ref b24), .val vr33, .unset, .unset, .unset, .unset, .unset, .unset] [(.ref b15)])) _
      refine XS.astore X23.here hx rfl (hb hby at_81) rfl rfl (l' := #[.val (.int p1), .val (.int p2), .val (.int p3), .val (.int p4), .val (.ref b1), .val (.ref b15), .val (.ref b24), .val vr33, .val (.ref b15), .unset, .unset, .unset, .unset, .unset]) rfl ?_
      show Steps p.tables e below (T23.setTop (mkF m 83 #[.val (.int p1), .val (.int p2), .val (.int p3), .val (.int p4), .val (.ref b1), .val (.ref b15), .val (.ref b24), .val vr33, .val (.ref b15), .unset, .unset, .unset, .unset, .unset] [])) _
      refine XS.iloadN X23.here hx rfl (hb hby at_83) rfl ?_
      show Steps p.tables e below (T23.setTop (mkF m 84 #[.val (.int p1), .val (.int p2), .val (.int p3), .val (.int p4), .val (.ref b1), .val (.ref b15), .val (.ref b24), .val vr33, .val (.ref b15), .unset, .unset, .unset, .unset, .unset] [(.int p4)])) _
      refine XT.iconstV X23.here hx rfl (4 : Int32) (hb hby at_84) (by decide) ?_
      show Steps p.tables e below (T23.setTop (mkF m 85 #[.val (.int p1), .val (.int p2), .val (.int p3), .val (.int p4), .val (.ref b1), .val (.ref b15), .val (.ref b24), .val vr33, .val (.ref b15), .unset, .unset, .unset, .unset, .unset] [(.int (4 : Int32)), (.int p4)])) _
      refine own_op_iand X23.here hx rfl (hb hby at_85) rfl (z := (p4 &&& (4 : Int32))) rfl ?_
      exact k_
    obtain ⟨vt119, d119, S119⟩ : ∃ vt119 : Value, (((p4 &&& (4 : Int32)) = (0 : Int32) ∧ vt119 = .null) ∨ (¬ (p4 &&& (4 : Int32)) = (0 : Int32) ∧ vt119 = (.ref b24))) ∧ ∀ t_, Steps p.tables e below (T23.setTop (mkF m 95 #[.val (.int p1), .val (.int p2), .val (.int p3), .val (.int p4), .val (.ref b1), .val (.ref b15), .val (.ref b24), .val vr33, .val (.ref b15), .unset, .unset, .unset, .unset, .unset] [vt119])) t_ → Steps p.tables e below (s₁.setTop (entryFrame m #[(.int p1), (.int p2), (.int p3), (.int p4)] maxLocals)) t_ := by
      by_cases cnd119 : (p4 &&& (4 : Int32)) = (0 : Int32)
      · refine ⟨.null, Or.inl ⟨cnd119, rfl⟩, fun t_ k_ => S118 t_ ?_⟩
        show Steps p.tables e below (T23.setTop (mkF m 86 #[.val (.int p1), .val (.int p2), .val (.int p3), .val (.int p4), .val (.ref b1), .val (.ref b15), .val (.ref b24), .val vr33, .val (.ref b15), .unset, .unset, .unset, .unset, .unset] [(.int (p4 &&& (4 : Int32)))])) _
        refine XS.ifYes X23.here hx rfl (pc0 := 86) (pc' := 94) rfl (hb hby at_86) rfl ((if0 _ _).trans (teq (cnd119 : (p4 &&& (4 : Int32)) = (0 : Int32))).1) (by decide) (by decide) ?_
        show Steps p.tables e below (T23.setTop (mkF m 94 #[.val (.int p1), .val (.int p2), .val (.int p3), .val (.int p4), .val (.ref b1), .val (.ref b15), .val (.ref b24), .val vr33, .val (.ref b15), .unset, .unset, .unset, .unset, .unset] [])) _
        refine XS.aconstNull X23.here hx rfl (hb hby at_94) ?_
        exact k_
      · refine ⟨(.ref b24), Or.inr ⟨cnd119, rfl⟩, fun t_ k_ => S118 t_ ?_⟩
        show Steps p.tables e below (T23.setTop (mkF m 86 #[.val (.int p1), .val (.int p2), .val (.int p3), .val (.int p4), .val (.ref b1), .val (.ref b15), .val (.ref b24), .val vr33, .val (.ref b15), .unset, .unset, .unset, .unset, .unset] [(.int (p4 &&& (4 : Int32)))])) _
        refine XS.ifNo X23.here hx rfl (hb hby at_86) rfl ((if0 _ _).trans (feq (cnd119 : ¬ (p4 &&& (4 : Int32)) = (0 : Int32))).1) ?_
        show Steps p.tables e below (T23.setTop (mkF m 89 #[.val (.int p1), .val (.int p2), .val (.int p3), .val (.int p4), .val (.ref b1), .val (.ref b15), .val (.ref b24), .val vr33, .val (.ref b15), .unset, .unset, .unset, .unset, .unset] [])) _
        refine XS.aload X23.here hx rfl (hb hby at_89) rfl rfl ?_
        show Steps p.tables e below (T23.setTop (mkF m 91 #[.val (.int p1), .val (.int p2), .val (.int p3), .val (.int p4), .val (.ref b1), .val (.ref b15), .val (.ref b24), .val vr33, .val (.ref b15), .unset, .unset, .unset, .unset, .unset] [(.ref b24)])) _
        refine XS.goto X23.here hx rfl (pc0 := 91) (pc' := 95) rfl (hb hby at_91) (by decide) (by decide) ?_
        exact k_
    have i119 : vt119.isRef = true := by rcases d119 with ⟨-, rfl⟩ | ⟨-, rfl⟩ <;> rfl
    obtain ⟨_, _, ⟨T120, L120, k120, n120⟩, -, X120, ⟨Lc120, hQ120, l120, y120, z120⟩, st120⟩ := Jvm.LawKit.callS X23 hx (y := (⟨"com/example/fetcher/client/Received", "error", "(Ljava/lang/String;Ljava/lang/String;Ljava/lang/String;)Lcom/example/fetcher/client/Received;"⟩ : MethodName)) hown (mvT hZ (tw44 hw)) (mvT hZ (tw45 hw)) (mvT hZ (tw46 hw)) (mvT hZ (tw47 hw)) (by decide) (backOf (W := 0) (rm_err l Z a0 hw [] vr33 (.ref b15) vt119 a_EMPTY_LIST a_EMPTY_SET T23.heap n0 (by omega) O23 i33 rfl i119 E_a_EMPTY_LIST F_a_EMPTY_LIST_allowNulls E_a_EMPTY_SET S_EMPTY_LIST S_EMPTY_SET) hZ (tw47 hw) (tw46 hw) (by decide) (by decide)) (g := (mkF m 103 #[.val (.int p1), .val (.int p2), .val (.int p3), .val (.int p4), .val (.ref b1), .val (.ref b15), .val (.ref b24), .val vr33, .val (.ref b15), .val vt119, .unset, .unset, .unset, .unset] [vt119, (.ref b15), vr33])) rfl (by rw [hml]; rfl) (argsL := [vr33, (.ref b15), vt119]) (rest := []) (lenOf pd21 rfl) rfl (by show 2 * 0 + _ ≤ _; exact Nat.le_of_eq rfl) (hb hby at_103) (fun _ _ => ⟨rfl, rfl, (by decide : 7 + 1 ≤ _), (by decide : 18 + 7 ≤ _)⟩)
    dsimp only [Pt.U, Pt.locs, Pt.cells, Pt.slots] at X120 l120 y120 z120 st120 hQ120
    subst l120 y120 z120
    obtain ⟨o121, rfl, N120q, Kq120, p120_0, p120_1, p120_2, p120_3, p120_4, p120_5⟩ := hQ120
    have N120 := Fr.app N23 N120q
    have z120 := Kq120.1
    have O120 := O23.keep Kq120 all0
    have lq122 : (o121 : Nat) < (T120.heap.size : Nat) := p120_0.lt
    have lq123 : (o121 : Nat) < (T120.heap.size : Nat) := p120_1.lt
    have lq124 : (o121 : Nat) < (T120.heap.size : Nat) := p120_2.lt
    have lq125 : (o121 : Nat) < (T120.heap.size : Nat) := p120_3.lt
    have lq126 : (o121 : Nat) < (T120.heap.size : Nat) := p120_4.lt
    have bq120 := p120_5
    obtain ⟨cq127, kq127, q127a, q127b, q127c⟩ := isOf hZ rfl p120_0
    obtain ⟨_, _, ⟨T127, L127, k127, n127⟩, -, X127, ⟨Lc127, hQ127, l127, y127, z127⟩, st127⟩ := X120.virtualBack hx (y := (⟨"com/example/fetcher/client/Received", "isError", "()Z"⟩ : MethodName)) (z := (⟨"com/example/fetcher/client/Received", "isError", "()Z"⟩ : MethodName)) hown (mvT hZ (tw104 hw)) (mvT hZ (tw105 hw)) (notFace_of_selects (args := #[]) (mvT hZ (tw107 hw))) (mvT hZ (tw107 hw)) (mvT hZ (tw106 hw)) (by decide) (backOf (W := 0) (rm_ieR l Z a0 hw [] o121 b15 T120.heap n0 (by omega) O120 p120_1) hZ (tw108 hw) (tw46 hw) (by decide) (by decide)) q127a q127c (g := (mkF m 110 #[.val (.int p1), .val (.int p2), .val (.int p3), .val (.int p4), .val (.ref b1), .val (.ref b15), .val (.ref b24), .val vr33, .val (.ref b15), .val vt119, .val (.ref o121), .unset, .unset, .unset] [(.ref o121)])) rfl (by rw [hml]; rfl) (Steps.refl _) (argsL := []) (rest := []) (lenOf pd13 rfl) rfl (by show 2 * 0 + _ ≤ _; exact Nat.le_of_eq rfl) (hb hby at_110) (fun _ _ => ⟨rfl, rfl, (by decide : 8 + 0 ≤ _), (by decide : 25 + 0 ≤ _)⟩)
    dsimp only [Pt.U, Pt.locs, Pt.cells, Pt.slots] at X127 l127 y127 z127 st127 hQ127
    subst l127 y127 z127
    obtain ⟨rfl, N127q, Kq127⟩ := hQ127
    have N127 := Fr.app N120 N127q
    obtain ⟨cq128, kq128, q128a, q128b, q128c⟩ := isOf hZ Kq127 p120_0
    obtain ⟨_, _, ⟨T128, L128, k128, n128⟩, -, X128, ⟨Lc128, hQ128, l128, y128, z128⟩, st128⟩ := X127.virtualBack hx (y := (⟨"com/example/fetcher/client/Received", "errorCode", "()Ljava/lang/String;"⟩ : MethodName)) (z := (⟨"com/example/fetcher/client/Received", "errorCode", "()Ljava/lang/String;"⟩ : MethodName)) hown (mvT hZ (tw109 hw)) (mvT hZ (tw110 hw)) (notFace_of_selects (args := #[]) (mvT hZ (tw112 hw))) (mvT hZ (tw112 hw)) (mvT hZ (tw111 hw)) (by decide) (backOf (W := 0) (rm_ecR l Z a0 hw [] o121 b15 T120.heap n0 (by omega) O120 p120_1) hZ (tw113 hw) (tw46 hw) (by decide) (by decide)) q128a q128c (g := (mkF m 128 #[.val (.int p1), .val (.int p2), .val (.int p3), .val (.int p4), .val (.ref b1), .val (.ref b15), .val (.ref b24), .val vr33, .val (.ref b15), .val vt119, .val (.ref o121), .unset, .unset, .unset] [(.ref o121)])) rfl (by rw [hml]; rfl) (Steps.refl _) (argsL := []) (rest := []) (lenOf pd22 rfl) rfl (by show 2 * 0 + _ ≤ _; exact Nat.le_of_eq rfl) (hb hby at_128) (fun _ _ => ⟨rfl, Kq127, (by decide : 8 + 0 ≤ _), (by decide : 25 + 0 ≤ _)⟩)
    dsimp only [Pt.U, Pt.locs, Pt.cells, Pt.slots] at X128 l128 y128 z128 st128 hQ128
    subst l128 y128 z128
    obtain ⟨rfl, N128q, Kq128⟩ := hQ128
    have N128 := Fr.app N127 N128q
    obtain ⟨T129, h129, X129, e129, E129, A129, D129, -, st129⟩ := newO X128 hx hZ hown (tw114 hw) (tw115 hw) (tw116 hw) Kq128 (g := (mkF m 143 #[.val (.int p1), .val (.int p2), .val (.int p3), .val (.int p4), .val (.ref b1), .val (.ref b15), .val (.ref b24), .val vr33, .val (.ref b15), .val vt119, .val (.ref o121), .val (.int (1 : Int32)), .unset, .unset] [])) rfl (hb hby at_143) (by decide) (by decide)
    obtain ⟨b129, g129⟩ : ∃ z, z = T120.heap.size := ⟨_, rfl⟩
    rw [← g129] at A129 D129 st129
    have lb129 : (b129 : Nat) < (h129.size : Nat) := A129.lt
    have z129 := E129.1
    have O129 := O120.ext E129
    have f130 : Fld Z h129 b129 "java/util/AbstractList" "modCount" "I" (.int (0 : Int32)) := D129 (Or.inl (tw134 hw)) (ty := .int) (by decide)
    have f131 : Fld Z h129 b129 "java/util/ArrayList" "elementData" "[Ljava/lang/Object;" .null := D129 (Or.inl (tw137 hw)) (ty := (.array (.object "java/lang/Object"))) (by decide)
    have f132 : Fld Z h129 b129 "java/util/ArrayList" "size" "I" (.int (0 : Int32)) := D129 (Or.inl (tw169 hw)) (ty := .int) (by decide)
    obtain ⟨_, _, ⟨T133, L133, k133, n133⟩, -, X133, ⟨Lc133, hQ133, l133, y133, z133⟩, st133⟩ := X129.specialBack hx (y := (⟨"java/util/ArrayList", "<init>", "()V"⟩ : MethodName)) rfl hown (mvT hZ (tw117 hw)) (mvT hZ (tw118 hw)) (mvT hZ (tw119 hw)) (by decide) (backOf (W := 1) (rm_alin l Z a0 hw [] b129 (.int (0 : Int32)) .null (0 : Int32) a_DEFAULTCAPACITY_EMPTY_ELEMENTDATA h129 n0 (by omega) O129 A129 f130 f131 f132 (by omega) S_DEFAULTCAPACITY_EMPTY_ELEMENTDATA) hZ (tw119 hw) (tw116 hw) (by decide) (by decide)) (g := (mkF m 147 #[.val (.int p1), .val (.int p2), .val (.int p3), .val (.int p4), .val (.ref b1), .val (.ref b15), .val (.ref b24), .val vr33, .val (.ref b15), .val vt119, .val (.ref o121), .val (.int (1 : Int32)), .unset, .unset] [(.ref b129), (.ref b129)])) rfl (by rw [hml]; rfl) (Steps.refl _) (a := b129) (argsL := []) (rest := [(.ref b129)]) (lenOf pd4 rfl) rfl (by show 2 * 0 + _ ≤ _; exact Nat.le_of_eq rfl) (hb hby at_147) (fun _ _ => ⟨rfl, e129, (by decide : 9 + 0 ≤ _), (by decide : 28 + 0 ≤ _)⟩)
    dsimp only [Pt.U, Pt.locs, Pt.cells, Pt.slots] at X133 l133 y133 z133 st133 hQ133
    subst l133 y133 z133
    obtain ⟨rfl, N133q, Kq133, p133_0, p133_1, p133_2, p133_3⟩ := hQ133
    have N133 := Fr.app N128 N133q
    have z133 := Kq133.1
    have O133 := O129.keep Kq133 (allS (by omega) all0)
    have lq134 : (b129 : Nat) < (T133.heap.size : Nat) := p133_0.lt
    have lq135 : (b129 : Nat) < (T133.heap.size : Nat) := p133_1.lt
    have lq136 : (b129 : Nat) < (T133.heap.size : Nat) := p133_2.lt
    have lq137 : (b129 : Nat) < (T133.heap.size : Nat) := p133_3.lt
    have S138 : ∀ t_, Steps p.tables e below (T133.setTop (mkF m 156 #[.val (.int p1), .val (.int p2), .val (.int p3), .val (.int p4), .val (.ref b1), .val (.ref b15), .val (.ref b24), .val vr33, .val (.ref b15), .val vt119, .val (.ref o121), .val (.int (1 : Int32)), .val (.ref b129), .unset] [(.int (p4 &&& (8 : Int32)))])) t_ → Steps p.tables e below (s₁.setTop (entryFrame m #[(.int p1), (.int p2), (.int p3), (.int p4)] maxLocals)) t_ := by
      intro t_ k_
      refine S119 t_ ?_
      show Steps p.tables e below (T23.setTop (mkF m 95 #[.val (.int p1), .val (.int p2), .val (.int p3), .val (.int p4), .val (.ref b1), .val (.ref b15), .val (.ref b24), .val vr33, .val (.ref b15), .unset, .unset, .unset, .unset, .unset] [vt119])) _
      refine XS.astore X23.here hx rfl (hb hby at_95) rfl i119 (l' := #[.val (.int p1), .val (.int p2), .val (.int p3), .val (.int p4), .val (.ref b1), .val (.ref b15), .val (.ref b24), .val vr33, .val (.ref b15), .val vt119, .unset, .unset, .unset, .unset]) (by rcases ref_cases i119 with q | ⟨_, q⟩ <;> subst q <;> rfl) ?_
      show Steps p.tables e below (T23.setTop (mkF m 97 #[.val (.int p1), .val (.int p2), .val (.int p3), .val (.int p4), .val (.ref b1), .val (.ref b15), .val (.ref b24), .val vr33, .val (.ref b15), .val vt119, .unset, .unset, .unset, .unset] [])) _
      refine XS.aload X23.here hx rfl (hb hby at_97) rfl i33 ?_
      show Steps p.tables e below (T23.setTop (mkF m 99 #[.val (.int p1), .val (.int p2), .val (.int p3), .val (.int p4), .val (.ref b1), .val (.ref b15), .val (.ref b24), .val vr33, .val (.ref b15), .val vt119, .unset, .unset, .unset, .unset] [vr33])) _
      refine XS.aload X23.here hx rfl (hb hby at_99) rfl rfl ?_
      show Steps p.tables e below (T23.setTop (mkF m 101 #[.val (.int p1), .val (.int p2), .val (.int p3), .val (.int p4), .val (.ref b1), .val (.ref b15), .val (.ref b24), .val vr33, .val (.ref b15), .val vt119, .unset, .unset, .unset, .unset] [(.ref b15), vr33])) _
      refine XS.aload X23.here hx rfl (hb hby at_101) rfl i119 ?_
      show Steps p.tables e below (T23.setTop (mkF m 103 #[.val (.int p1), .val (.int p2), .val (.int p3), .val (.int p4), .val (.ref b1), .val (.ref b15), .val (.ref b24), .val vr33, .val (.ref b15), .val vt119, .unset, .unset, .unset, .unset] [vt119, (.ref b15), vr33])) _
      refine st120 _ ?_
      show Steps p.tables e below (T120.setTop (mkF m 106 #[.val (.int p1), .val (.int p2), .val (.int p3), .val (.int p4), .val (.ref b1), .val (.ref b15), .val (.ref b24), .val vr33, .val (.ref b15), .val vt119, .unset, .unset, .unset, .unset] [(.ref o121)])) _
      refine XS.astore X120.here hx rfl (hb hby at_106) rfl rfl (l' := #[.val (.int p1), .val (.int p2), .val (.int p3), .val (.int p4), .val (.ref b1), .val (.ref b15), .val (.ref b24), .val vr33, .val (.ref b15), .val vt119, .val (.ref o121), .unset, .unset, .unset]) rfl ?_
      show Steps p.tables e below (T120.setTop (mkF m 108 #[.val (.int p1), .val (.int p2), .val (.int p3), .val (.int p4), .val (.ref b1), .val (.ref b15), .val (.ref b24), .val vr33, .val (.ref b15), .val vt119, .val (.ref o121), .unset, .unset, .unset] [])) _
      refine XS.aload X120.here hx rfl (hb hby at_108) rfl rfl ?_
      show Steps p.tables e below (T120.setTop (mkF m 110 #[.val (.int p1), .val (.int p2), .val (.int p3), .val (.int p4), .val (.ref b1), .val (.ref b15), .val (.ref b24), .val vr33, .val (.ref b15), .val vt119, .val (.ref o121), .unset, .unset, .unset] [(.ref o121)])) _
      refine st127.trans ?_
      show Steps p.tables e below (T127.setTop (mkF m 113 #[.val (.int p1), .val (.int p2), .val (.int p3), .val (.int p4), .val (.ref b1), .val (.ref b15), .val (.ref b24), .val vr33, .val (.ref b15), .val vt119, .val (.ref o121), .unset, .unset, .unset] [(.int (1 : Int32))])) _
      refine XS.aload X127.here hx rfl (hb hby at_113) rfl rfl ?_
      show Steps p.tables e below (T127.setTop (mkF m 115 #[.val (.int p1), .val (.int p2), .val (.int p3), .val (.int p4), .val (.ref b1), .val (.ref b15), .val (.ref b24), .val vr33, .val (.ref b15), .val vt119, .val (.ref o121), .unset, .unset, .unset] [(.ref b15), (.int (1 : Int32))])) _
      refine XS.ifnullNo X127.here hx rfl (hb hby at_115) rfl ?_
      show Steps p.tables e below (T127.setTop (mkF m 118 #[.val (.int p1), .val (.int p2), .val (.int p3), .val (.int p4), .val (.ref b1), .val (.ref b15), .val (.ref b24), .val vr33, .val (.ref b15), .val vt119, .val (.ref o121), .unset, .unset, .unset] [(.int (1 : Int32))])) _
      refine XT.iconstV X127.here hx rfl (1 : Int32) (hb hby at_118) (by decide) ?_
      show Steps p.tables e below (T127.setTop (mkF m 119 #[.val (.int p1), .val (.int p2), .val (.int p3), .val (.int p4), .val (.ref b1), .val (.ref b15), .val (.ref b24), .val vr33, .val (.ref b15), .val vt119, .val (.ref o121), .unset, .unset, .unset] [(.int (1 : Int32)), (.int (1 : Int32))])) _
      refine XS.goto X127.here hx rfl (pc0 := 119) (pc' := 123) rfl (hb hby at_119) (by decide) (by decide) ?_
      show Steps p.tables e below (T127.setTop (mkF m 123 #[.val (.int p1), .val (.int p2), .val (.int p3), .val (.int p4), .val (.ref b1), .val (.ref b15), .val (.ref b24), .val vr33, .val (.ref b15), .val vt119, .val (.ref o121), .unset, .unset, .unset] [(.int (1 : Int32)), (.int (1 : Int32))])) _
      refine XS.icmpNo X127.here hx rfl (hb hby at_123) rfl (by decide) ?_
      show Steps p.tables e below (T127.setTop (mkF m 126 #[.val (.int p1), .val (.int p2), .val (.int p3), .val (.int p4), .val (.ref b1), .val (.ref b15), .val (.ref b24), .val vr33, .val (.ref b15), .val vt119, .val (.ref o121), .unset, .unset, .unset] [])) _
      refine XS.aload X127.here hx rfl (hb hby at_126) rfl rfl ?_
      show Steps p.tables e below (T127.setTop (mkF m 128 #[.val (.int p1), .val (.int p2), .val (.int p3), .val (.int p4), .val (.ref b1), .val (.ref b15), .val (.ref b24), .val vr33, .val (.ref b15), .val vt119, .val (.ref o121), .unset, .unset, .unset] [(.ref o121)])) _
      refine st128.trans ?_
      show Steps p.tables e below (T128.setTop (mkF m 131 #[.val (.int p1), .val (.int p2), .val (.int p3), .val (.int p4), .val (.ref b1), .val (.ref b15), .val (.ref b24), .val vr33, .val (.ref b15), .val vt119, .val (.ref o121), .unset, .unset, .unset] [(.ref b15)])) _
      refine XS.aload X128.here hx rfl (hb hby at_131) rfl rfl ?_
      show Steps p.tables e below (T128.setTop (mkF m 133 #[.val (.int p1), .val (.int p2), .val (.int p3), .val (.int p4), .val (.ref b1), .val (.ref b15), .val (.ref b24), .val vr33, .val (.ref b15), .val vt119, .val (.ref o121), .unset, .unset, .unset] [(.ref b15), (.ref b15)])) _
      refine Jvm.RoadKit.acmp (g := (mkF m 133 #[.val (.int p1), .val (.int p2), .val (.int p3), .val (.int p4), .val (.ref b1), .val (.ref b15), .val (.ref b24), .val vr33, .val (.ref b15), .val vt119, .val (.ref o121), .unset, .unset, .unset] [(.ref b15), (.ref b15)])) X128 hx rfl rfl rfl (pc0 := 133) (pc' := 136) (same := true) rfl (hb hby at_133) rfl (decide_eq_true rfl) (by decide) (by decide) ?_
      show Steps p.tables e below (T128.setTop (mkF m 136 #[.val (.int p1), .val (.int p2), .val (.int p3), .val (.int p4), .val (.ref b1), .val (.ref b15), .val (.ref b24), .val vr33, .val (.ref b15), .val vt119, .val (.ref o121), .unset, .unset, .unset] [])) _
      refine XT.iconstV X128.here hx rfl (1 : Int32) (hb hby at_136) (by decide) ?_
      show Steps p.tables e below (T128.setTop (mkF m 137 #[.val (.int p1), .val (.int p2), .val (.int p3), .val (.int p4), .val (.ref b1), .val (.ref b15), .val (.ref b24), .val vr33, .val (.ref b15), .val vt119, .val (.ref o121), .unset, .unset, .unset] [(.int (1 : Int32))])) _
      refine XS.goto X128.here hx rfl (pc0 := 137) (pc' := 141) rfl (hb hby at_137) (by decide) (by decide) ?_
      show Steps p.tables e below (T128.setTop (mkF m 141 #[.val (.int p1), .val (.int p2), .val (.int p3), .val (.int p4), .val (.ref b1), .val (.ref b15), .val (.ref b24), .val vr33, .val (.ref b15), .val vt119, .val (.ref o121), .unset, .unset, .unset] [(.int (1 : Int32))])) _
      refine XS.istore X128.here hx rfl (hb hby at_141) rfl (l' := #[.val (.int p1), .val (.int p2), .val (.int p3), .val (.int p4), .val (.ref b1), .val (.ref b15), .val (.ref b24), .val vr33, .val (.ref b15), .val vt119, .val (.ref o121), .val (.int (1 : Int32)), .unset, .unset]) rfl ?_
      show Steps p.tables e below (T128.setTop (mkF m 143 #[.val (.int p1), .val (.int p2), .val (.int p3), .val (.int p4), .val (.ref b1), .val (.ref b15), .val (.ref b24), .val vr33, .val (.ref b15), .val vt119, .val (.ref o121), .val (.int (1 : Int32)), .unset, .unset] [])) _
      refine st129 _ ?_
      show Steps p.tables e below (T129.setTop (mkF m 146 #[.val (.int p1), .val (.int p2), .val (.int p3), .val (.int p4), .val (.ref b1), .val (.ref b15), .val (.ref b24), .val vr33, .val (.ref b15), .val vt119, .val (.ref o121), .val (.int (1 : Int32)), .unset, .unset] [(.ref b129)])) _
      refine XS.dup X129.here hx rfl (hb hby at_146) rfl rfl ?_
      show Steps p.tables e below (T129.setTop (mkF m 147 #[.val (.int p1), .val (.int p2), .val (.int p3), .val (.int p4), .val (.ref b1), .val (.ref b15), .val (.ref b24), .val vr33, .val (.ref b15), .val vt119, .val (.ref o121), .val (.int (1 : Int32)), .unset, .unset] [(.ref b129), (.ref b129)])) _
      refine st133.trans ?_
      show Steps p.tables e below (T133.setTop (mkF m 150 #[.val (.int p1), .val (.int p2), .val (.int p3), .val (.int p4), .val (.ref b1), .val (.ref b15), .val (.ref b24), .val vr33, .val (.ref b15), .val vt119, .val (.ref o121), .val (.int (1 : Int32)), .unset, .unset] [(.ref b129)])) _
      refine XS.astore X133.here hx rfl (hb hby at_150) rfl rfl (l' := #[.val (.int p1), .val (.int p2), .val (.int p3), .val (.int p4), .val (.ref b1), .val (.ref b15), .val (.ref b24), .val vr33, .val (.ref b15), .val vt119, .val (.ref o121), .val (.int (1 : Int32)), .val (.ref b129), .unset]) rfl ?_
      show Steps p.tables e below (T133.setTop (mkF m 152 #[.val (.int p1), .val (.int p2), .val (.int p3), .val (.int p4), .val (.ref b1), .val (.ref b15), .val (.ref b24), .val vr33, .val (.ref b15), .val vt119, .val (.ref o121), .val (.int (1 : Int32)), .val (.ref b129), .unset] [])) _
      refine XS.iloadN X133.here hx rfl (hb hby at_152) rfl ?_
      show Steps p.tables e below (T133.setTop (mkF m 153 #[.val (.int p1), .val (.int p2), .val (.int p3), .val (.int p4), .val (.ref b1), .val (.ref b15), .val (.ref b24), .val vr33, .val (.ref b15), .val vt119, .val (.ref o121), .val (.int (1 : Int32)), .val (.ref b129), .unset] [(.int p4)])) _
      refine XT.bipushV X133.here hx rfl (8 : Int32) (hb hby at_153) (by decide) ?_
      show Steps p.tables e below (T133.setTop (mkF m 155 #[.val (.int p1), .val (.int p2), .val (.int p3), .val (.int p4), .val (.ref b1), .val (.ref b15), .val (.ref b24), .val vr33, .val (.ref b15), .val vt119, .val (.ref o121), .val (.int (1 : Int32)), .val (.ref b129), .unset] [(.int (8 : Int32)), (.int p4)])) _
      refine own_op_iand X133.here hx rfl (hb hby at_155) rfl (z := (p4 &&& (8 : Int32))) rfl ?_
      exact k_
    by_cases cnd139 : (p4 &&& (8 : Int32)) = (0 : Int32)
    · -- (p4 &&& (8 : Int32)) = (0 : Int32)
      obtain ⟨T140, h140, X140, e140, E140, A140, D140, -, st140⟩ := newO X133 hx hZ hown (tw138 hw) (tw49 hw) (tw46 hw) rfl (g := (mkF m 167 #[.val (.int p1), .val (.int p2), .val (.int p3), .val (.int p4), .val (.ref b1), .val (.ref b15), .val (.ref b24), .val vr33, .val (.ref b15), .val vt119, .val (.ref o121), .val (.int (1 : Int32)), .val (.ref b129), .unset] [])) rfl (hb hby at_167) (by decide) (by decide)
      obtain ⟨b140, g140⟩ : ∃ z, z = T133.heap.size := ⟨_, rfl⟩
      rw [← g140] at A140 D140 st140
      have lb140 : (b140 : Nat) < (h140.size : Nat) := A140.lt
      have z140 := E140.1
      have O140 := O133.ext E140
      have f141 : Fld Z h140 b140 "com/example/fetcher/client/Received" "replyTo" "Ljava/lang/String;" .null := D140 (Or.inr (tw66 hw)) (ty := (.object "java/lang/String")) (by decide)
      have f142 : Fld Z h140 b140 "com/example/fetcher/client/Received" "errorCode" "Ljava/lang/String;" .null := D140 (Or.inr (tw68 hw)) (ty := (.object "java/lang/String")) (by decide)
      have f143 : Fld Z h140 b140 "com/example/fetcher/client/Received" "errorText" "Ljava/lang/String;" .null := D140 (Or.inr (tw70 hw)) (ty := (.object "java/lang/String")) (by decide)
      have f144 : Fld Z h140 b140 "com/example/fetcher/client/Received" "resources" "Ljava/util/List;" .null := D140 (Or.inr (tw90 hw)) (ty := (.object "java/util/List")) (by decide)
      have f145 : Fld Z h140 b140 "com/example/fetcher/client/Received" "returned" "Ljava/util/List;" .null := D140 (Or.inr (tw92 hw)) (ty := (.object "java/util/List")) (by decide)
      have f146 : Fld Z h140 b140 "com/example/fetcher/client/Received" "told" "Ljava/util/List;" .null := D140 (Or.inr (tw94 hw)) (ty := (.object "java/util/List")) (by decide)
      have f147 : Fld Z h140 b140 "com/example/fetcher/client/Received" "versions" "Ljava/util/Set;" .null := D140 (Or.inr (tw103 hw)) (ty := (.object "java/util/Set")) (by decide)
      have f148 := (((p120_2.ext E129).keep Kq133 (ninS (by omega : (o121 : Nat) ≠ (b129 : Nat)) nin0)).ext E140)
      have f150 := (((p120_0.ext E129).keep Kq133).ext E140)
      obtain ⟨cq149, kq149, q149a, q149b, q149c⟩ := isOf hZ e140 f150
      obtain ⟨_, _, ⟨T149, L149, k149, n149⟩, -, X149, ⟨Lc149, hQ149, l149, y149, z149⟩, st149⟩ := X140.virtualBack hx (y := (⟨"com/example/fetcher/client/Received", "returned", "()Ljava/util/List;"⟩ : MethodName)) (z := (⟨"com/example/fetcher/client/Received", "returned", "()Ljava/util/List;"⟩ : MethodName)) hown (mvT hZ (tw139 hw)) (mvT hZ (tw140 hw)) (notFace_of_selects (args := #[]) (mvT hZ (tw142 hw))) (mvT hZ (tw142 hw)) (mvT hZ (tw141 hw)) (by decide) (backOf (W := 4) (rm_gre l Z a0 hw [] o121 a_EMPTY_LIST h140 n0 (by omega) O140 f148) hZ (tw143 hw) (tw46 hw) (by decide) (by decide)) q149a q149c (g := (mkF m 177 #[.val (.int p1), .val (.int p2), .val (.int p3), .val (.int p4), .val (.ref b1), .val (.ref b15), .val (.ref b24), .val vr33, .val (.ref b15), .val vt119, .val (.ref o121), .val (.int (1 : Int32)), .val (.ref b129), .unset] [(.ref o121), (.ref b129), vr33, (.ref b140), (.ref b140)])) rfl (by rw [hml]; rfl) (Steps.refl _) (argsL := []) (rest := [(.ref b129), vr33, (.ref b140), (.ref b140)]) (lenOf pd14 rfl) rfl (by simp [own_cR, own_cI, own_cJ, own_cN, own_cat i33]) (hb hby at_177) (fun _ _ => ⟨rfl, e140, (by decide : 10 + 0 ≤ _), (by decide : 35 + 0 ≤ _)⟩)
      dsimp only [Pt.U, Pt.locs, Pt.cells, Pt.slots] at X149 l149 y149 z149 st149 hQ149
      subst l149 y149 z149
      obtain ⟨rfl, N149q, Kq149⟩ := hQ149
      have N149 := Fr.app N133 N149q
      have f151 := (((p120_3.ext E129).keep Kq133 (ninS (by omega : (o121 : Nat) ≠ (b129 : Nat)) nin0)).ext E140)
      obtain ⟨cq152, kq152, q152a, q152b, q152c⟩ := isOf hZ Kq149 f150
      obtain ⟨_, _, ⟨T152, L152, k152, n152⟩, -, X152, ⟨Lc152, hQ152, l152, y152, z152⟩, st152⟩ := X149.virtualBack hx (y := (⟨"com/example/fetcher/client/Received", "told", "()Ljava/util/List;"⟩ : MethodName)) (z := (⟨"com/example/fetcher/client/Received", "told", "()Ljava/util/List;"⟩ : MethodName)) hown (mvT hZ (tw144 hw)) (mvT hZ (tw145 hw)) (notFace_of_selects (args := #[]) (mvT hZ (tw147 hw))) (mvT hZ (tw147 hw)) (mvT hZ (tw146 hw)) (by decide) (backOf (W := 5) (rm_gto l Z a0 hw [] o121 a_EMPTY_LIST h140 n0 (by omega) O140 f151) hZ (tw148 hw) (tw46 hw) (by decide) (by decide)) q152a q152c (g := (mkF m 182 #[.val (.int p1), .val (.int p2), .val (.int p3), .val (.int p4), .val (.ref b1), .val (.ref b15), .val (.ref b24), .val vr33, .val (.ref b15), .val vt119, .val (.ref o121), .val (.int (1 : Int32)), .val (.ref b129), .unset] [(.ref o121), (.ref a_EMPTY_LIST), (.ref b129), vr33, (.ref b140), (.ref b140)])) rfl (by rw [hml]; rfl) (Steps.refl _) (argsL := []) (rest := [(.ref a_EMPTY_LIST), (.ref b129), vr33, (.ref b140), (.ref b140)]) (lenOf pd14 rfl) rfl (by simp [own_cR, own_cI, own_cJ, own_cN, own_cat i33]) (hb hby at_182) (fun _ _ => ⟨rfl, Kq149, (by decide : 10 + 0 ≤ _), (by decide : 35 + 0 ≤ _)⟩)
      dsimp only [Pt.U, Pt.locs, Pt.cells, Pt.slots] at X152 l152 y152 z152 st152 hQ152
      subst l152 y152 z152
      obtain ⟨rfl, N152q, Kq152⟩ := hQ152
      have N152 := Fr.app N149 N152q
      have f153 := (((p120_4.ext E129).keep Kq133 (ninS (by omega : (o121 : Nat) ≠ (b129 : Nat)) nin0)).ext E140)
      obtain ⟨cq154, kq154, q154a, q154b, q154c⟩ := isOf hZ Kq152 f150
      obtain ⟨_, _, ⟨T154, L154, k154, n154⟩, -, X154, ⟨Lc154, hQ154, l154, y154, z154⟩, st154⟩ := X152.virtualBack hx (y := (⟨"com/example/fetcher/client/Received", "versions", "()Ljava/util/Set;"⟩ : MethodName)) (z := (⟨"com/example/fetcher/client/Received", "versions", "()Ljava/util/Set;"⟩ : MethodName)) hown (mvT hZ (tw149 hw)) (mvT hZ (tw150 hw)) (notFace_of_selects (args := #[]) (mvT hZ (tw152 hw))) (mvT hZ (tw152 hw)) (mvT hZ (tw151 hw)) (by decide) (backOf (W := 6) (rm_gve l Z a0 hw [] o121 a_EMPTY_SET h140 n0 (by omega) O140 f153) hZ (tw153 hw) (tw46 hw) (by decide) (by decide)) q154a q154c (g := (mkF m 187 #[.val (.int p1), .val (.int p2), .val (.int p3), .val (.int p4), .val (.ref b1), .val (.ref b15), .val (.ref b24), .val vr33, .val (.ref b15), .val vt119, .val (.ref o121), .val (.int (1 : Int32)), .val (.ref b129), .unset] [(.ref o121), (.ref a_EMPTY_LIST), (.ref a_EMPTY_LIST), (.ref b129), vr33, (.ref b140), (.ref b140)])) rfl (by rw [hml]; rfl) (Steps.refl _) (argsL := []) (rest := [(.ref a_EMPTY_LIST), (.ref a_EMPTY_LIST), (.ref b129), vr33, (.ref b140), (.ref b140)]) (lenOf pd17 rfl) rfl (by simp [own_cR, own_cI, own_cJ, own_cN, own_cat i33]) (hb hby at_187) (fun _ _ => ⟨rfl, Kq152, (by decide : 10 + 0 ≤ _), (by decide : 35 + 0 ≤ _)⟩)
      dsimp only [Pt.U, Pt.locs, Pt.cells, Pt.slots] at X154 l154 y154 z154 st154 hQ154
      subst l154 y154 z154
      obtain ⟨rfl, N154q, Kq154⟩ := hQ154
      have N154 := Fr.app N152 N154q
      have f155 := (p133_0.ext E140)
      have f156 := (p133_3.ext E140)
      obtain ⟨_, _, ⟨T157, L157, k157, n157⟩, -, X157, ⟨Lc157, hQ157, l157, y157, z157⟩, st157⟩ := X154.specialBack hx (y := (⟨"com/example/fetcher/client/Received", "<init>", "(Ljava/lang/String;Ljava/util/List;Ljava/util/List;Ljava/util/List;Ljava/util/Set;)V"⟩ : MethodName)) rfl hown (mvT hZ (tw154 hw)) (mvT hZ (tw155 hw)) (mvT hZ (tw156 hw)) (by decide) (backOf (W := 1) (rm_r50 l Z a0 hw [] b140 vr33 b129 .null .null .null .null .null .null .null a_EMPTY_LIST a_EMPTY_SET h140 n0 (by omega) O140 A140 f141 f142 f143 f144 f145 f146 f147 i33 (by omega) f155 f156 (by omega : (b129 : Nat) ≠ (b140 : Nat)) E_a_EMPTY_LIST F_a_EMPTY_LIST_allowNulls E_a_EMPTY_SET S_EMPTY_LIST) hZ (tw156 hw) (tw46 hw) (by decide) (by decide)) (g := (mkF m 190 #[.val (.int p1), .val (.int p2), .val (.int p3), .val (.int p4), .val (.ref b1), .val (.ref b15), .val (.ref b24), .val vr33, .val (.ref b15), .val vt119, .val (.ref o121), .val (.int (1 : Int32)), .val (.ref b129), .unset] [(.ref a_EMPTY_SET), (.ref a_EMPTY_LIST), (.ref a_EMPTY_LIST), (.ref b129), vr33, (.ref b140), (.ref b140)])) rfl (by rw [hml]; rfl) (Steps.refl _) (a := b140) (argsL := [vr33, (.ref b129), (.ref a_EMPTY_LIST), (.ref a_EMPTY_LIST), (.ref a_EMPTY_SET)]) (rest := [(.ref b140)]) (lenOf pd23 rfl) rfl (by show 2 * 0 + _ ≤ _; exact Nat.le_of_eq rfl) (hb hby at_190) (fun _ _ => ⟨rfl, Kq154, (by decide : 10 + 0 ≤ _), (by decide : 35 + 0 ≤ _)⟩)
      dsimp only [Pt.U, Pt.locs, Pt.cells, Pt.slots] at X157 l157 y157 z157 st157 hQ157
      subst l157 y157 z157
      obtain ⟨rfl, N157q, Kq157, p157_0, p157_1⟩ := hQ157
      have N157 := Fr.app N154 N157q
      have z157 := Kq157.1
      have O157 := O140.keep Kq157 (allS (by omega) all0)
      have lq158 : (b140 : Nat) < (T157.heap.size : Nat) := p157_0.lt
      have lq159 : (b140 : Nat) < (T157.heap.size : Nat) := p157_1.lt
      obtain ⟨cq160, kq160, q160a, q160b, q160c⟩ := isOf hZ rfl p157_0
      obtain ⟨_, _, ⟨T160, L160, k160, n160⟩, -, X160, ⟨Lc160, hQ160, l160, y160, z160⟩, st160⟩ := X157.virtualBack hx (y := (⟨"com/example/fetcher/client/Received", "isError", "()Z"⟩ : MethodName)) (z := (⟨"com/example/fetcher/client/Received", "isError", "()Z"⟩ : MethodName)) hown (mvT hZ (tw104 hw)) (mvT hZ (tw105 hw)) (notFace_of_selects (args := #[]) (mvT hZ (tw107 hw))) (mvT hZ (tw107 hw)) (mvT hZ (tw106 hw)) (by decide) (backOf (W := 0) (rm_ieN l Z a0 hw [] b140 T157.heap n0 (by omega) O157 p157_1) hZ (tw108 hw) (tw46 hw) (by decide) (by decide)) q160a q160c (g := (mkF m 202 #[.val (.int p1), .val (.int p2), .val (.int p3), .val (.int p4), .val (.ref b1), .val (.ref b15), .val (.ref b24), .val vr33, .val (.ref b15), .val vt119, .val (.ref o121), .val (.int (1 : Int32)), .val (.ref b129), .val (.ref b140)] [(.ref b140)])) rfl (by rw [hml]; rfl) (Steps.refl _) (argsL := []) (rest := []) (lenOf pd13 rfl) rfl (by show 2 * 0 + _ ≤ _; exact Nat.le_of_eq rfl) (hb hby at_202) (fun _ _ => ⟨rfl, rfl, (by decide : 10 + 0 ≤ _), (by decide : 35 + 0 ≤ _)⟩)
      dsimp only [Pt.U, Pt.locs, Pt.cells, Pt.slots] at X160 l160 y160 z160 st160 hQ160
      subst l160 y160 z160
      obtain ⟨rfl, N160q, Kq160⟩ := hQ160
      have N160 := Fr.app N157 N160q
      obtain ⟨cq161, kq161, q161a, q161b, q161c⟩ := isOf hZ Kq160 p157_0
      obtain ⟨_, _, ⟨T161, L161, k161, n161⟩, -, X161, ⟨Lc161, hQ161, l161, y161, z161⟩, st161⟩ := X160.virtualBack hx (y := (⟨"com/example/fetcher/client/Received", "errorCode", "()Ljava/lang/String;"⟩ : MethodName)) (z := (⟨"com/example/fetcher/client/Received", "errorCode", "()Ljava/lang/String;"⟩ : MethodName)) hown (mvT hZ (tw109 hw)) (mvT hZ (tw110 hw)) (notFace_of_selects (args := #[]) (mvT hZ (tw112 hw))) (mvT hZ (tw112 hw)) (mvT hZ (tw111 hw)) (by decide) (backOf (W := 0) (rm_ecN l Z a0 hw [] b140 T157.heap n0 (by omega) O157 p157_1) hZ (tw113 hw) (tw46 hw) (by decide) (by decide)) q161a q161c (g := (mkF m 210 #[.val (.int p1), .val (.int p2), .val (.int p3), .val (.int p4), .val (.ref b1), .val (.ref b15), .val (.ref b24), .val vr33, .val (.ref b15), .val vt119, .val (.ref o121), .val (.int (1 : Int32)), .val (.ref b129), .val (.ref b140)] [(.ref b140)])) rfl (by rw [hml]; rfl) (Steps.refl _) (argsL := []) (rest := []) (lenOf pd22 rfl) rfl (by show 2 * 0 + _ ≤ _; exact Nat.le_of_eq rfl) (hb hby at_210) (fun _ _ => ⟨rfl, Kq160, (by decide : 10 + 0 ≤ _), (by decide : 35 + 0 ≤ _)⟩)
      dsimp only [Pt.U, Pt.locs, Pt.cells, Pt.slots] at X161 l161 y161 z161 st161 hQ161
      subst l161 y161 z161
      obtain ⟨rfl, N161q, Kq161⟩ := hQ161
      have N161 := Fr.app N160 N161q
      have S162 : ∀ t_, Steps p.tables e below (T161.setTop (mkF m 225 #[.val (.int p1), .val (.int p2), .val (.int p3), .val (.int p4), .val (.ref b1), .val (.ref b15), .val (.ref b24), .val vr33, .val (.ref b15), .val vt119, .val (.ref o121), .val (.int (1 : Int32)), .val (.ref b129), .val (.ref b140)] [(.int (1 : Int32))])) t_ → Steps p.tables e below (s₁.setTop (entryFrame m #[(.int p1), (.int p2), (.int p3), (.int p4)] maxLocals)) t_ := by
        intro t_ k_
        refine S138 t_ ?_
        show Steps p.tables e below (T133.setTop (mkF m 156 #[.val (.int p1), .val (.int p2), .val (.int p3), .val (.int p4), .val (.ref b1), .val (.ref b15), .val (.ref b24), .val vr33, .val (.ref b15), .val vt119, .val (.ref o121), .val (.int (1 : Int32)), .val (.ref b129), .unset] [(.int (p4 &&& (8 : Int32)))])) _
        refine XS.ifYes X133.here hx rfl (pc0 := 156) (pc' := 167) rfl (hb hby at_156) rfl ((if0 _ _).trans (teq cnd139).1) (by decide) (by decide) ?_
        show Steps p.tables e below (T133.setTop (mkF m 167 #[.val (.int p1), .val (.int p2), .val (.int p3), .val (.int p4), .val (.ref b1), .val (.ref b15), .val (.ref b24), .val vr33, .val (.ref b15), .val vt119, .val (.ref o121), .val (.int (1 : Int32)), .val (.ref b129), .unset] [])) _
        refine st140 _ ?_
        show Steps p.tables e below (T140.setTop (mkF m 170 #[.val (.int p1), .val (.int p2), .val (.int p3), .val (.int p4), .val (.ref b1), .val (.ref b15), .val (.ref b24), .val vr33, .val (.ref b15), .val vt119, .val (.ref o121), .val (.int (1 : Int32)), .val (.ref b129), .unset] [(.ref b140)])) _
        refine XS.dup X140.here hx rfl (hb hby at_170) rfl rfl ?_
        show Steps p.tables e below (T140.setTop (mkF m 171 #[.val (.int p1), .val (.int p2), .val (.int p3), .val (.int p4), .val (.ref b1), .val (.ref b15), .val (.ref b24), .val vr33, .val (.ref b15), .val vt119, .val (.ref o121), .val (.int (1 : Int32)), .val (.ref b129), .unset] [(.ref b140), (.ref b140)])) _
        refine XS.aload X140.here hx rfl (hb hby at_171) rfl i33 ?_
        show Steps p.tables e below (T140.setTop (mkF m 173 #[.val (.int p1), .val (.int p2), .val (.int p3), .val (.int p4), .val (.ref b1), .val (.ref b15), .val (.ref b24), .val vr33, .val (.ref b15), .val vt119, .val (.ref o121), .val (.int (1 : Int32)), .val (.ref b129), .unset] [vr33, (.ref b140), (.ref b140)])) _
        refine XS.aload X140.here hx rfl (hb hby at_173) rfl rfl ?_
        show Steps p.tables e below (T140.setTop (mkF m 175 #[.val (.int p1), .val (.int p2), .val (.int p3), .val (.int p4), .val (.ref b1), .val (.ref b15), .val (.ref b24), .val vr33, .val (.ref b15), .val vt119, .val (.ref o121), .val (.int (1 : Int32)), .val (.ref b129), .unset] [(.ref b129), vr33, (.ref b140), (.ref b140)])) _
        refine XS.aload X140.here hx rfl (hb hby at_175) rfl rfl ?_
        show Steps p.tables e below (T140.setTop (mkF m 177 #[.val (.int p1), .val (.int p2), .val (.int p3), .val (.int p4), .val (.ref b1), .val (.ref b15), .val (.ref b24), .val vr33, .val (.ref b15), .val vt119, .val (.ref o121), .val (.int (1 : Int32)), .val (.ref b129), .unset] [(.ref o121), (.ref b129), vr33, (.ref b140), (.ref b140)])) _
        refine st149.trans ?_
        show Steps p.tables e below (T149.setTop (mkF m 180 #[.val (.int p1), .val (.int p2), .val (.int p3), .val (.int p4), .val (.ref b1), .val (.ref b15), .val (.ref b24), .val vr33, .val (.ref b15), .val vt119, .val (.ref o121), .val (.int (1 : Int32)), .val (.ref b129), .unset] [(.ref a_EMPTY_LIST), (.ref b129), vr33, (.ref b140), (.ref b140)])) _
        refine XS.aload X149.here hx rfl (hb hby at_180) rfl rfl ?_
        show Steps p.tables e below (T149.setTop (mkF m 182 #[.val (.int p1), .val (.int p2), .val (.int p3), .val (.int p4), .val (.ref b1), .val (.ref b15), .val (.ref b24), .val vr33, .val (.ref b15), .val vt119, .val (.ref o121), .val (.int (1 : Int32)), .val (.ref b129), .unset] [(.ref o121), (.ref a_EMPTY_LIST), (.ref b129), vr33, (.ref b140), (.ref b140)])) _
        refine st152.trans ?_
        show Steps p.tables e below (T152.setTop (mkF m 185 #[.val (.int p1), .val (.int p2), .val (.int p3), .val (.int p4), .val (.ref b1), .val (.ref b15), .val (.ref b24), .val vr33, .val (.ref b15), .val vt119, .val (.ref o121), .val (.int (1 : Int32)), .val (.ref b129), .unset] [(.ref a_EMPTY_LIST), (.ref a_EMPTY_LIST), (.ref b129), vr33, (.ref b140), (.ref b140)])) _
        refine XS.aload X152.here hx rfl (hb hby at_185) rfl rfl ?_
        show Steps p.tables e below (T152.setTop (mkF m 187 #[.val (.int p1), .val (.int p2), .val (.int p3), .val (.int p4), .val (.ref b1), .val (.ref b15), .val (.ref b24), .val vr33, .val (.ref b15), .val vt119, .val (.ref o121), .val (.int (1 : Int32)), .val (.ref b129), .unset] [(.ref o121), (.ref a_EMPTY_LIST), (.ref a_EMPTY_LIST), (.ref b129), vr33, (.ref b140), (.ref b140)])) _
        refine st154.trans ?_
        show Steps p.tables e below (T154.setTop (mkF m 190 #[.val (.int p1), .val (.int p2), .val (.int p3), .val (.int p4), .val (.ref b1), .val (.ref b15), .val (.ref b24), .val vr33, .val (.ref b15), .val vt119, .val (.ref o121), .val (.int (1 : Int32)), .val (.ref b129), .unset] [(.ref a_EMPTY_SET), (.ref a_EMPTY_LIST), (.ref a_EMPTY_LIST), (.ref b129), vr33, (.ref b140), (.ref b140)])) _
        refine st157.trans ?_
        show Steps p.tables e below (T157.setTop (mkF m 193 #[.val (.int p1), .val (.int p2), .val (.int p3), .val (.int p4), .val (.ref b1), .val (.ref b15), .val (.ref b24), .val vr33, .val (.ref b15), .val vt119, .val (.ref o121), .val (.int (1 : Int32)), .val (.ref b129), .unset] [(.ref b140)])) _
        refine XS.astore X157.here hx rfl (hb hby at_193) rfl rfl (l' := #[.val (.int p1), .val (.int p2), .val (.int p3), .val (.int p4), .val (.ref b1), .val (.ref b15), .val (.ref b24), .val vr33, .val (.ref b15), .val vt119, .val (.ref o121), .val (.int (1 : Int32)), .val (.ref b129), .val (.ref b140)]) rfl ?_
        show Steps p.tables e below (T157.setTop (mkF m 195 #[.val (.int p1), .val (.int p2), .val (.int p3), .val (.int p4), .val (.ref b1), .val (.ref b15), .val (.ref b24), .val vr33, .val (.ref b15), .val vt119, .val (.ref o121), .val (.int (1 : Int32)), .val (.ref b129), .val (.ref b140)] [])) _
        refine XS.iload X157.here hx rfl (hb hby at_195) rfl ?_
        show Steps p.tables e below (T157.setTop (mkF m 197 #[.val (.int p1), .val (.int p2), .val (.int p3), .val (.int p4), .val (.ref b1), .val (.ref b15), .val (.ref b24), .val vr33, .val (.ref b15), .val vt119, .val (.ref o121), .val (.int (1 : Int32)), .val (.ref b129), .val (.ref b140)] [(.int (1 : Int32))])) _
        refine XS.ifNo X157.here hx rfl (hb hby at_197) rfl (by decide) ?_
        show Steps p.tables e below (T157.setTop (mkF m 200 #[.val (.int p1), .val (.int p2), .val (.int p3), .val (.int p4), .val (.ref b1), .val (.ref b15), .val (.ref b24), .val vr33, .val (.ref b15), .val vt119, .val (.ref o121), .val (.int (1 : Int32)), .val (.ref b129), .val (.ref b140)] [])) _
        refine XS.aload X157.here hx rfl (hb hby at_200) rfl rfl ?_
        show Steps p.tables e below (T157.setTop (mkF m 202 #[.val (.int p1), .val (.int p2), .val (.int p3), .val (.int p4), .val (.ref b1), .val (.ref b15), .val (.ref b24), .val vr33, .val (.ref b15), .val vt119, .val (.ref o121), .val (.int (1 : Int32)), .val (.ref b129), .val (.ref b140)] [(.ref b140)])) _
        refine st160.trans ?_
        show Steps p.tables e below (T160.setTop (mkF m 205 #[.val (.int p1), .val (.int p2), .val (.int p3), .val (.int p4), .val (.ref b1), .val (.ref b15), .val (.ref b24), .val vr33, .val (.ref b15), .val vt119, .val (.ref o121), .val (.int (1 : Int32)), .val (.ref b129), .val (.ref b140)] [(.int (0 : Int32))])) _
        refine XS.ifNo X160.here hx rfl (hb hby at_205) rfl (by decide) ?_
        show Steps p.tables e below (T160.setTop (mkF m 208 #[.val (.int p1), .val (.int p2), .val (.int p3), .val (.int p4), .val (.ref b1), .val (.ref b15), .val (.ref b24), .val vr33, .val (.ref b15), .val vt119, .val (.ref o121), .val (.int (1 : Int32)), .val (.ref b129), .val (.ref b140)] [])) _
        refine XS.aload X160.here hx rfl (hb hby at_208) rfl rfl ?_
        show Steps p.tables e below (T160.setTop (mkF m 210 #[.val (.int p1), .val (.int p2), .val (.int p3), .val (.int p4), .val (.ref b1), .val (.ref b15), .val (.ref b24), .val vr33, .val (.ref b15), .val vt119, .val (.ref o121), .val (.int (1 : Int32)), .val (.ref b129), .val (.ref b140)] [(.ref b140)])) _
        refine st161.trans ?_
        show Steps p.tables e below (T161.setTop (mkF m 213 #[.val (.int p1), .val (.int p2), .val (.int p3), .val (.int p4), .val (.ref b1), .val (.ref b15), .val (.ref b24), .val vr33, .val (.ref b15), .val vt119, .val (.ref o121), .val (.int (1 : Int32)), .val (.ref b129), .val (.ref b140)] [.null])) _
        refine XS.ifnonnullNo X161.here hx rfl (hb hby at_213) rfl ?_
        show Steps p.tables e below (T161.setTop (mkF m 216 #[.val (.int p1), .val (.int p2), .val (.int p3), .val (.int p4), .val (.ref b1), .val (.ref b15), .val (.ref b24), .val vr33, .val (.ref b15), .val vt119, .val (.ref o121), .val (.int (1 : Int32)), .val (.ref b129), .val (.ref b140)] [])) _
        refine XT.iconstV X161.here hx rfl (1 : Int32) (hb hby at_216) (by decide) ?_
        show Steps p.tables e below (T161.setTop (mkF m 217 #[.val (.int p1), .val (.int p2), .val (.int p3), .val (.int p4), .val (.ref b1), .val (.ref b15), .val (.ref b24), .val vr33, .val (.ref b15), .val vt119, .val (.ref o121), .val (.int (1 : Int32)), .val (.ref b129), .val (.ref b140)] [(.int (1 : Int32))])) _
        refine XS.goto X161.here hx rfl (pc0 := 217) (pc' := 221) rfl (hb hby at_217) (by decide) (by decide) ?_
        show Steps p.tables e below (T161.setTop (mkF m 221 #[.val (.int p1), .val (.int p2), .val (.int p3), .val (.int p4), .val (.ref b1), .val (.ref b15), .val (.ref b24), .val vr33, .val (.ref b15), .val vt119, .val (.ref o121), .val (.int (1 : Int32)), .val (.ref b129), .val (.ref b140)] [(.int (1 : Int32))])) _
        refine XS.istore X161.here hx rfl (hb hby at_221) rfl (l' := #[.val (.int p1), .val (.int p2), .val (.int p3), .val (.int p4), .val (.ref b1), .val (.ref b15), .val (.ref b24), .val vr33, .val (.ref b15), .val vt119, .val (.ref o121), .val (.int (1 : Int32)), .val (.ref b129), .val (.ref b140)]) rfl ?_
        show Steps p.tables e below (T161.setTop (mkF m 223 #[.val (.int p1), .val (.int p2), .val (.int p3), .val (.int p4), .val (.ref b1), .val (.ref b15), .val (.ref b24), .val vr33, .val (.ref b15), .val vt119, .val (.ref o121), .val (.int (1 : Int32)), .val (.ref b129), .val (.ref b140)] [])) _
        refine XS.iload X161.here hx rfl (hb hby at_223) rfl ?_
        exact k_
      obtain ⟨fs, hr, hrun, hended, hW, hsame⟩ := X161.leave (v := (some (.int (1 : Int32)))) (fun h => by rw [Bd.returns] at h; cases h)
      refine ⟨_, _, S162 _ ((retN X161 hx (t := .boolean) Bd.returns (by simp) (hb hby at_225) hr)), hrun, hended, _, _, rfl, ?_, ⟨_, rfl⟩, hW, hsame.mono (by decide) (by decide)⟩
      show Q_law Z p1 p2 p3 p4 cz a_EMPTY_LIST a_EMPTY_SET a_DEFAULTCAPACITY_EMPTY_ELEMENTDATA a_EMPTY k_a_DEFAULTCAPACITY_EMPTY_ELEMENTDATA mO h0 n0 _ T161.heap _
      rw [Kq161]
      exact ⟨rfl, N161⟩
    · -- ¬ (p4 &&& (8 : Int32)) = (0 : Int32)
      have f163 := ((((p14_0.keep Kq23).keep Kq120).ext E129).keep Kq133)
      obtain ⟨cq164, kq164, q164a, q164b, q164c⟩ := isOf hZ rfl p133_0
      obtain ⟨_, _, ⟨T164, L164, k164, n164⟩, -, X164, ⟨Lc164, hQ164, l164, y164, z164⟩, st164⟩ := X133.virtualBack hx (y := (⟨"java/util/ArrayList", "add", "(Ljava/lang/Object;)Z"⟩ : MethodName)) (z := (⟨"java/util/ArrayList", "add", "(Ljava/lang/Object;)Z"⟩ : MethodName)) hown (mvT hZ (tw171 hw)) (mvT hZ (tw172 hw)) (notFace_of_selects (args := #[]) (mvT hZ (tw174 hw))) (mvT hZ (tw174 hw)) (mvT hZ (tw173 hw)) (by decide) (backOf (W := 0) (rm_add1 l Z a0 hw [] b129 b15 (0 : Int32) a_DEFAULTCAPACITY_EMPTY_ELEMENTDATA k_a_DEFAULTCAPACITY_EMPTY_ELEMENTDATA T133.heap n0 (by omega) O133 p133_0 f163 p133_1 p133_2 p133_3 (by omega) S_DEFAULTCAPACITY_EMPTY_ELEMENTDATA E_a_DEFAULTCAPACITY_EMPTY_ELEMENTDATA A_a_DEFAULTCAPACITY_EMPTY_ELEMENTDATA) hZ (tw175 hw) (tw116 hw) (by decide) (by decide)) q164a q164c (g := (mkF m 163 #[.val (.int p1), .val (.int p2), .val (.int p3), .val (.int p4), .val (.ref b1), .val (.ref b15), .val (.ref b24), .val vr33, .val (.ref b15), .val vt119, .val (.ref o121), .val (.int (1 : Int32)), .val (.ref b129), .unset] [(.ref b15), (.ref b129)])) rfl (by rw [hml]; rfl) (Steps.refl _) (argsL := [(.ref b15)]) (rest := []) (lenOf pd24 rfl) rfl (by show 2 * 0 + _ ≤ _; exact Nat.le_of_eq rfl) (hb hby at_163) (fun _ _ => ⟨rfl, rfl, (by decide : 9 + 1 ≤ _), (by decide : 28 + 10 ≤ _)⟩)
      dsimp only [Pt.U, Pt.locs, Pt.cells, Pt.slots] at X164 l164 y164 z164 st164 hQ164
      subst l164 y164 z164
      obtain ⟨b165, kb166, rfl, N164q, Kq164, p164_0, p164_1, p164_2, p164_3, p164_4, p164_5, p164_6⟩ := hQ164
      have N164 := Fr.app N133 N164q
      have z164 := Kq164.1
      have O164 := O133.keep Kq164 (allS (by omega) all0)
      have lq167 : (b129 : Nat) < (T164.heap.size : Nat) := p164_0.lt
      have lq168 : (b129 : Nat) < (T164.heap.size : Nat) := p164_1.lt
      have lq169 : (b129 : Nat) < (T164.heap.size : Nat) := p164_2.lt
      have lq170 : (b129 : Nat) < (T164.heap.size : Nat) := p164_3.lt
      have lq171 : (b165 : Nat) < (T164.heap.size : Nat) := p164_4.lt
      have lq172 : (b165 : Nat) < (T164.heap.size : Nat) := p164_5.lt
      have bq164 := p164_6
      obtain ⟨T173, h173, X173, e173, E173, A173, D173, -, st173⟩ := newO X164 hx hZ hown (tw138 hw) (tw49 hw) (tw46 hw) rfl (g := (mkF m 167 #[.val (.int p1), .val (.int p2), .val (.int p3), .val (.int p4), .val (.ref b1), .val (.ref b15), .val (.ref b24), .val vr33, .val (.ref b15), .val vt119, .val (.ref o121), .val (.int (1 : Int32)), .val (.ref b129), .unset] [])) rfl (hb hby at_167) (by decide) (by decide)
      obtain ⟨b173, g173⟩ : ∃ z, z = T164.heap.size := ⟨_, rfl⟩
      rw [← g173] at A173 D173 st173
      have lb173 : (b173 : Nat) < (h173.size : Nat) := A173.lt
      have z173 := E173.1
      have O173 := O164.ext E173
      have f174 : Fld Z h173 b173 "com/example/fetcher/client/Received" "replyTo" "Ljava/lang/String;" .null := D173 (Or.inr (tw66 hw)) (ty := (.object "java/lang/String")) (by decide)
      have f175 : Fld Z h173 b173 "com/example/fetcher/client/Received" "errorCode" "Ljava/lang/String;" .null := D173 (Or.inr (tw68 hw)) (ty := (.object "java/lang/String")) (by decide)
      have f176 : Fld Z h173 b173 "com/example/fetcher/client/Received" "errorText" "Ljava/lang/String;" .null := D173 (Or.inr (tw70 hw)) (ty := (.object "java/lang/String")) (by decide)
      have f177 : Fld Z h173 b173 "com/example/fetcher/client/Received" "resources" "Ljava/util/List;" .null := D173 (Or.inr (tw90 hw)) (ty := (.object "java/util/List")) (by decide)
      have f178 : Fld Z h173 b173 "com/example/fetcher/client/Received" "returned" "Ljava/util/List;" .null := D173 (Or.inr (tw92 hw)) (ty := (.object "java/util/List")) (by decide)
      have f179 : Fld Z h173 b173 "com/example/fetcher/client/Received" "told" "Ljava/util/List;" .null := D173 (Or.inr (tw94 hw)) (ty := (.object "java/util/List")) (by decide)
      have f180 : Fld Z h173 b173 "com/example/fetcher/client/Received" "versions" "Ljava/util/Set;" .null := D173 (Or.inr (tw103 hw)) (ty := (.object "java/util/Set")) (by decide)
      have f181 := ((((p120_2.ext E129).keep Kq133 (ninS (by omega : (o121 : Nat) ≠ (b129 : Nat)) nin0)).keep Kq164 (ninS (by omega : (o121 : Nat) ≠ (b129 : Nat)) nin0)).ext E173)
      have f183 := ((((p120_0.ext E129).keep Kq133).keep Kq164).ext E173)
      obtain ⟨cq182, kq182, q182a, q182b, q182c⟩ := isOf hZ e173 f183
      obtain ⟨_, _, ⟨T182, L182, k182, n182⟩, -, X182, ⟨Lc182, hQ182, l182, y182, z182⟩, st182⟩ := X173.virtualBack hx (y := (⟨"com/example/fetcher/client/Received", "returned", "()Ljava/util/List;"⟩ : MethodName)) (z := (⟨"com/example/fetcher/client/Received", "returned", "()Ljava/util/List;"⟩ : MethodName)) hown (mvT hZ (tw139 hw)) (mvT hZ (tw140 hw)) (notFace_of_selects (args := #[]) (mvT hZ (tw142 hw))) (mvT hZ (tw142 hw)) (mvT hZ (tw141 hw)) (by decide) (backOf (W := 4) (rm_gre l Z a0 hw [] o121 a_EMPTY_LIST h173 n0 (by omega) O173 f181) hZ (tw143 hw) (tw46 hw) (by decide) (by decide)) q182a q182c (g := (mkF m 177 #[.val (.int p1), .val (.int p2), .val (.int p3), .val (.int p4), .val (.ref b1), .val (.ref b15), .val (.ref b24), .val vr33, .val (.ref b15), .val vt119, .val (.ref o121), .val (.int (1 : Int32)), .val (.ref b129), .unset] [(.ref o121), (.ref b129), vr33, (.ref b173), (.ref b173)])) rfl (by rw [hml]; rfl) (Steps.refl _) (argsL := []) (rest := [(.ref b129), vr33, (.ref b173), (.ref b173)]) (lenOf pd14 rfl) rfl (by simp [own_cR, own_cI, own_cJ, own_cN, own_cat i33]) (hb hby at_177) (fun _ _ => ⟨rfl, e173, (by decide : 11 + 0 ≤ _), (by decide : 45 + 0 ≤ _)⟩)
      dsimp only [Pt.U, Pt.locs, Pt.cells, Pt.slots] at X182 l182 y182 z182 st182 hQ182
      subst l182 y182 z182
      obtain ⟨rfl, N182q, Kq182⟩ := hQ182
      have N182 := Fr.app N164 N182q
      have f184 := ((((p120_3.ext E129).keep Kq133 (ninS (by omega : (o121 : Nat) ≠ (b129 : Nat)) nin0)).keep Kq164 (ninS (by omega : (o121 : Nat) ≠ (b129 : Nat)) nin0)).ext E173)
      obtain ⟨cq185, kq185, q185a, q185b, q185c⟩ := isOf hZ Kq182 f183
      obtain ⟨_, _, ⟨T185, L185, k185, n185⟩, -, X185, ⟨Lc185, hQ185, l185, y185, z185⟩, st185⟩ := X182.virtualBack hx (y := (⟨"com/example/fetcher/client/Received", "told", "()Ljava/util/List;"⟩ : MethodName)) (z := (⟨"com/example/fetcher/client/Received", "told", "()Ljava/util/List;"⟩ : MethodName)) hown (mvT hZ (tw144 hw)) (mvT hZ (tw145 hw)) (notFace_of_selects (args := #[]) (mvT hZ (tw147 hw))) (mvT hZ (tw147 hw)) (mvT hZ (tw146 hw)) (by decide) (backOf (W := 5) (rm_gto l Z a0 hw [] o121 a_EMPTY_LIST h173 n0 (by omega) O173 f184) hZ (tw148 hw) (tw46 hw) (by decide) (by decide)) q185a q185c (g := (mkF m 182 #[.val (.int p1), .val (.int p2), .val (.int p3), .val (.int p4), .val (.ref b1), .val (.ref b15), .val (.ref b24), .val vr33, .val (.ref b15), .val vt119, .val (.ref o121), .val (.int (1 : Int32)), .val (.ref b129), .unset] [(.ref o121), (.ref a_EMPTY_LIST), (.ref b129), vr33, (.ref b173), (.ref b173)])) rfl (by rw [hml]; rfl) (Steps.refl _) (argsL := []) (rest := [(.ref a_EMPTY_LIST), (.ref b129), vr33, (.ref b173), (.ref b173)]) (lenOf pd14 rfl) rfl (by simp [own_cR, own_cI, own_cJ, own_cN, own_cat i33]) (hb hby at_182) (fun _ _ => ⟨rfl, Kq182, (by decide : 11 + 0 ≤ _), (by decide : 45 + 0 ≤ _)⟩)
      dsimp only [Pt.U, Pt.locs, Pt.cells, Pt.slots] at X185 l185 y185 z185 st185 hQ185
      subst l185 y185 z185
      obtain ⟨rfl, N185q, Kq185⟩ := hQ185
      have N185 := Fr.app N182 N185q
      have f186 := ((((p120_4.ext E129).keep Kq133 (ninS (by omega : (o121 : Nat) ≠ (b129 : Nat)) nin0)).keep Kq164 (ninS (by omega : (o121 : Nat) ≠ (b129 : Nat)) nin0)).ext E173)
      obtain ⟨cq187, kq187, q187a, q187b, q187c⟩ := isOf hZ Kq185 f183
      obtain ⟨_, _, ⟨T187, L187, k187, n187⟩, -, X187, ⟨Lc187, hQ187, l187, y187, z187⟩, st187⟩ := X185.virtualBack hx (y := (⟨"com/example/fetcher/client/Received", "versions", "()Ljava/util/Set;"⟩ : MethodName)) (z := (⟨"com/example/fetcher/client/Received", "versions", "()Ljava/util/Set;"⟩ : MethodName)) hown (mvT hZ (tw149 hw)) (mvT hZ (tw150 hw)) (notFace_of_selects (args := #[]) (mvT hZ (tw152 hw))) (mvT hZ (tw152 hw)) (mvT hZ (tw151 hw)) (by decide) (backOf (W := 6) (rm_gve l Z a0 hw [] o121 a_EMPTY_SET h173 n0 (by omega) O173 f186) hZ (tw153 hw) (tw46 hw) (by decide) (by decide)) q187a q187c (g := (mkF m 187 #[.val (.int p1), .val (.int p2), .val (.int p3), .val (.int p4), .val (.ref b1), .val (.ref b15), .val (.ref b24), .val vr33, .val (.ref b15), .val vt119, .val (.ref o121), .val (.int (1 : Int32)), .val (.ref b129), .unset] [(.ref o121), (.ref a_EMPTY_LIST), (.ref a_EMPTY_LIST), (.ref b129), vr33, (.ref b173), (.ref b173)])) rfl (by rw [hml]; rfl) (Steps.refl _) (argsL := []) (rest := [(.ref a_EMPTY_LIST), (.ref a_EMPTY_LIST), (.ref b129), vr33, (.ref b173), (.ref b173)]) (lenOf pd17 rfl) rfl (by simp [own_cR, own_cI, own_cJ, own_cN, own_cat i33]) (hb hby at_187) (fun _ _ => ⟨rfl, Kq185, (by decide : 11 + 0 ≤ _), (by decide : 45 + 0 ≤ _)⟩)
      dsimp only [Pt.U, Pt.locs, Pt.cells, Pt.slots] at X187 l187 y187 z187 st187 hQ187
      subst l187 y187 z187
      obtain ⟨rfl, N187q, Kq187⟩ := hQ187
      have N187 := Fr.app N185 N187q
      have f188 := (p164_0.ext E173)
      have f189 := (p164_2.ext E173)
      have f190 := (p164_3.ext E173)
      have f191 := (p164_4.ext E173)
      have f192 := (p164_5.ext E173)
      have f193 := ((f163.keep Kq164).ext E173)
      obtain ⟨_, _, ⟨T194, L194, k194, n194⟩, -, X194, ⟨Lc194, hQ194, l194, y194, z194⟩, st194⟩ := X187.specialBack hx (y := (⟨"com/example/fetcher/client/Received", "<init>", "(Ljava/lang/String;Ljava/util/List;Ljava/util/List;Ljava/util/List;Ljava/util/Set;)V"⟩ : MethodName)) rfl hown (mvT hZ (tw154 hw)) (mvT hZ (tw155 hw)) (mvT hZ (tw156 hw)) (by decide) (backOf (W := 1) (rm_r51 l Z a0 hw [] b173 vr33 b129 b165 b15 kb166 mO a_EMPTY .null .null .null .null .null .null .null a_EMPTY_LIST a_EMPTY_SET h173 n0 (by omega) O173 A173 f174 f175 f176 f177 f178 f179 f180 i33 (by omega) (by omega : (b129 : Nat) ≠ (b173 : Nat)) (by omega : (b165 : Nat) ≠ (b173 : Nat)) (by omega : (b15 : Nat) ≠ (b173 : Nat)) f188 f189 f190 f191 f192 f193 (by first | assumption | omega | decide) S_EMPTY E_a_EMPTY_LIST F_a_EMPTY_LIST_allowNulls E_a_EMPTY_SET) hZ (tw156 hw) (tw46 hw) (by decide) (by decide)) (g := (mkF m 190 #[.val (.int p1), .val (.int p2), .val (.int p3), .val (.int p4), .val (.ref b1), .val (.ref b15), .val (.ref b24), .val vr33, .val (.ref b15), .val vt119, .val (.ref o121), .val (.int (1 : Int32)), .val (.ref b129), .unset] [(.ref a_EMPTY_SET), (.ref a_EMPTY_LIST), (.ref a_EMPTY_LIST), (.ref b129), vr33, (.ref b173), (.ref b173)])) rfl (by rw [hml]; rfl) (Steps.refl _) (a := b173) (argsL := [vr33, (.ref b129), (.ref a_EMPTY_LIST), (.ref a_EMPTY_LIST), (.ref a_EMPTY_SET)]) (rest := [(.ref b173)]) (lenOf pd23 rfl) rfl (by show 2 * 0 + _ ≤ _; exact Nat.le_of_eq rfl) (hb hby at_190) (fun _ _ => ⟨rfl, Kq187, (by decide : 11 + 2 ≤ _), (by decide : 45 + 3 ≤ _)⟩)
      dsimp only [Pt.U, Pt.locs, Pt.cells, Pt.slots] at X194 l194 y194 z194 st194 hQ194
      subst l194 y194 z194
      obtain ⟨rfl, N194q, Kq194, p194_0, p194_1⟩ := hQ194
      have N194 := Fr.app N187 N194q
      have z194 := Kq194.1
      have O194 := O173.keep Kq194 (allS (by omega) all0)
      have lq195 : (b173 : Nat) < (T194.heap.size : Nat) := p194_0.lt
      have lq196 : (b173 : Nat) < (T194.heap.size : Nat) := p194_1.lt
      obtain ⟨cq197, kq197, q197a, q197b, q197c⟩ := isOf hZ rfl p194_0
      obtain ⟨_, _, ⟨T197, L197, k197, n197⟩, -, X197, ⟨Lc197, hQ197, l197, y197, z197⟩, st197⟩ := X194.virtualBack hx (y := (⟨"com/example/fetcher/client/Received", "isError", "()Z"⟩ : MethodName)) (z := (⟨"com/example/fetcher/client/Received", "isError", "()Z"⟩ : MethodName)) hown (mvT hZ (tw104 hw)) (mvT hZ (tw105 hw)) (notFace_of_selects (args := #[]) (mvT hZ (tw107 hw))) (mvT hZ (tw107 hw)) (mvT hZ (tw106 hw)) (by decide) (backOf (W := 0) (rm_ieN l Z a0 hw [] b173 T194.heap n0 (by omega) O194 p194_1) hZ (tw108 hw) (tw46 hw) (by decide) (by decide)) q197a q197c (g := (mkF m 202 #[.val (.int p1), .val (.int p2), .val (.int p3), .val (.int p4), .val (.ref b1), .val (.ref b15), .val (.ref b24), .val vr33, .val (.ref b15), .val vt119, .val (.ref o121), .val (.int (1 : Int32)), .val (.ref b129), .val (.ref b173)] [(.ref b173)])) rfl (by rw [hml]; rfl) (Steps.refl _) (argsL := []) (rest := []) (lenOf pd13 rfl) rfl (by show 2 * 0 + _ ≤ _; exact Nat.le_of_eq rfl) (hb hby at_202) (fun _ _ => ⟨rfl, rfl, (by decide : 13 + 0 ≤ _), (by decide : 48 + 0 ≤ _)⟩)
      dsimp only [Pt.U, Pt.locs, Pt.cells, Pt.slots] at X197 l197 y197 z197 st197 hQ197
      subst l197 y197 z197
      obtain ⟨rfl, N197q, Kq197⟩ := hQ197
      have N197 := Fr.app N194 N197q
      obtain ⟨cq198, kq198, q198a, q198b, q198c⟩ := isOf hZ Kq197 p194_0
      obtain ⟨_, _, ⟨T198, L198, k198, n198⟩, -, X198, ⟨Lc198, hQ198, l198, y198, z198⟩, st198⟩ := X197.virtualBack hx (y := (⟨"com/example/fetcher/client/Received", "errorCode", "()Ljava/lang/String;"⟩ : MethodName)) (z := (⟨"com/example/fetcher/client/Received", "errorCode", "()Ljava/lang/String;"⟩ : MethodName)) hown (mvT hZ (tw109 hw)) (mvT hZ (tw110 hw)) (notFace_of_selects (args := #[]) (mvT hZ (tw112 hw))) (mvT hZ (tw112 hw)) (mvT hZ (tw111 hw)) (by decide) (backOf (W := 0) (rm_ecN l Z a0 hw [] b173 T194.heap n0 (by omega) O194 p194_1) hZ (tw113 hw) (tw46 hw) (by decide) (by decide)) q198a q198c (g := (mkF m 210 #[.val (.int p1), .val (.int p2), .val (.int p3), .val (.int p4), .val (.ref b1), .val (.ref b15), .val (.ref b24), .val vr33, .val (.ref b15), .val vt119, .val (.ref o121), .val (.int (1 : Int32)), .val (.ref b129), .val (.ref b173)] [(.ref b173)])) rfl (by rw [hml]; rfl) (Steps.refl _) (argsL := []) (rest := []) (lenOf pd22 rfl) rfl (by show 2 * 0 + _ ≤ _; exact Nat.le_of_eq rfl) (hb hby at_210) (fun _ _ => ⟨rfl, Kq197, (by decide : 13 + 0 ≤ _), (by decide : 48 + 0 ≤ _)⟩)
      dsimp only [Pt.U, Pt.locs, Pt.cells, Pt.slots] at X198 l198 y198 z198 st198 hQ198
      subst l198 y198 z198
      obtain ⟨rfl, N198q, Kq198⟩ := hQ198
      have N198 := Fr.app N197 N198q
      have S199 : ∀ t_, Steps p.tables e below (T198.setTop (mkF m 225 #[.val (.int p1), .val (.int p2), .val (.int p3), .val (.int p4), .val (.ref b1), .val (.ref b15), .val (.ref b24), .val vr33, .val (.ref b15), .val vt119, .val (.ref o121), .val (.int (1 : Int32)), .val (.ref b129), .val (.ref b173)] [(.int (1 : Int32))])) t_ → Steps p.tables e below (s₁.setTop (entryFrame m #[(.int p1), (.int p2), (.int p3), (.int p4)] maxLocals)) t_ := by
        intro t_ k_
        refine S138 t_ ?_
        show Steps p.tables e below (T133.setTop (mkF m 156 #[.val (.int p1), .val (.int p2), .val (.int p3), .val (.int p4), .val (.ref b1), .val (.ref b15), .val (.ref b24), .val vr33, .val (.ref b15), .val vt119, .val (.ref o121), .val (.int (1 : Int32)), .val (.ref b129), .unset] [(.int (p4 &&& (8 : Int32)))])) _
        refine XS.ifNo X133.here hx rfl (hb hby at_156) rfl ((if0 _ _).trans (feq cnd139).1) ?_
        show Steps p.tables e below (T133.setTop (mkF m 159 #[.val (.int p1), .val (.int p2), .val (.int p3), .val (.int p4), .val (.ref b1), .val (.ref b15), .val (.ref b24), .val vr33, .val (.ref b15), .val vt119, .val (.ref o121), .val (.int (1 : Int32)), .val (.ref b129), .unset] [])) _
        refine XS.aload X133.here hx rfl (hb hby at_159) rfl rfl ?_
        show Steps p.tables e below (T133.setTop (mkF m 161 #[.val (.int p1), .val (.int p2), .val (.int p3), .val (.int p4), .val (.ref b1), .val (.ref b15), .val (.ref b24), .val vr33, .val (.ref b15), .val vt119, .val (.ref o121), .val (.int (1 : Int32)), .val (.ref b129), .unset] [(.ref b129)])) _
        refine XS.aload X133.here hx rfl (hb hby at_161) rfl rfl ?_
        show Steps p.tables e below (T133.setTop (mkF m 163 #[.val (.int p1), .val (.int p2), .val (.int p3), .val (.int p4), .val (.ref b1), .val (.ref b15), .val (.ref b24), .val vr33, .val (.ref b15), .val vt119, .val (.ref o121), .val (.int (1 : Int32)), .val (.ref b129), .unset] [(.ref b15), (.ref b129)])) _
        refine st164.trans ?_
        show Steps p.tables e below (T164.setTop (mkF m 166 #[.val (.int p1), .val (.int p2), .val (.int p3), .val (.int p4), .val (.ref b1), .val (.ref b15), .val (.ref b24), .val vr33, .val (.ref b15), .val vt119, .val (.ref o121), .val (.int (1 : Int32)), .val (.ref b129), .unset] [(.int (1 : Int32))])) _
        refine XS.pop X164.here hx rfl (hb hby at_166) rfl rfl ?_
        show Steps p.tables e below (T164.setTop (mkF m 167 #[.val (.int p1), .val (.int p2), .val (.int p3), .val (.int p4), .val (.ref b1), .val (.ref b15), .val (.ref b24), .val vr33, .val (.ref b15), .val vt119, .val (.ref o121), .val (.int (1 : Int32)), .val (.ref b129), .unset] [])) _
        refine st173 _ ?_
        show Steps p.tables e below (T173.setTop (mkF m 170 #[.val (.int p1), .val (.int p2), .val (.int p3), .val (.int p4), .val (.ref b1), .val (.ref b15), .val (.ref b24), .val vr33, .val (.ref b15), .val vt119, .val (.ref o121), .val (.int (1 : Int32)), .val (.ref b129), .unset] [(.ref b173)])) _
        refine XS.dup X173.here hx rfl (hb hby at_170) rfl rfl ?_
        show Steps p.tables e below (T173.setTop (mkF m 171 #[.val (.int p1), .val (.int p2), .val (.int p3), .val (.int p4), .val (.ref b1), .val (.ref b15), .val (.ref b24), .val vr33, .val (.ref b15), .val vt119, .val (.ref o121), .val (.int (1 : Int32)), .val (.ref b129), .unset] [(.ref b173), (.ref b173)])) _
        refine XS.aload X173.here hx rfl (hb hby at_171) rfl i33 ?_
        show Steps p.tables e below (T173.setTop (mkF m 173 #[.val (.int p1), .val (.int p2), .val (.int p3), .val (.int p4), .val (.ref b1), .val (.ref b15), .val (.ref b24), .val vr33, .val (.ref b15), .val vt119, .val (.ref o121), .val (.int (1 : Int32)), .val (.ref b129), .unset] [vr33, (.ref b173), (.ref b173)])) _
        refine XS.aload X173.here hx rfl (hb hby at_173) rfl rfl ?_
        show Steps p.tables e below (T173.setTop (mkF m 175 #[.val (.int p1), .val (.int p2), .val (.int p3), .val (.int p4), .val (.ref b1), .val (.ref b15), .val (.ref b24), .val vr33, .val (.ref b15), .val vt119, .val (.ref o121), .val (.int (1 : Int32)), .val (.ref b129), .unset] [(.ref b129), vr33, (.ref b173), (.ref b173)])) _
        refine XS.aload X173.here hx rfl (hb hby at_175) rfl rfl ?_
        show Steps p.tables e below (T173.setTop (mkF m 177 #[.val (.int p1), .val (.int p2), .val (.int p3), .val (.int p4), .val (.ref b1), .val (.ref b15), .val (.ref b24), .val vr33, .val (.ref b15), .val vt119, .val (.ref o121), .val (.int (1 : Int32)), .val (.ref b129), .unset] [(.ref o121), (.ref b129), vr33, (.ref b173), (.ref b173)])) _
        refine st182.trans ?_
        show Steps p.tables e below (T182.setTop (mkF m 180 #[.val (.int p1), .val (.int p2), .val (.int p3), .val (.int p4), .val (.ref b1), .val (.ref b15), .val (.ref b24), .val vr33, .val (.ref b15), .val vt119, .val (.ref o121), .val (.int (1 : Int32)), .val (.ref b129), .unset] [(.ref a_EMPTY_LIST), (.ref b129), vr33, (.ref b173), (.ref b173)])) _
        refine XS.aload X182.here hx rfl (hb hby at_180) rfl rfl ?_
        show Steps p.tables e below (T182.setTop (mkF m 182 #[.val (.int p1), .val (.int p2), .val (.int p3), .val (.int p4), .val (.ref b1), .val (.ref b15), .val (.ref b24), .val vr33, .val (.ref b15), .val vt119, .val (.ref o121), .val (.int (1 : Int32)), .val (.ref b129), .unset] [(.ref o121), (.ref a_EMPTY_LIST), (.ref b129), vr33, (.ref b173), (.ref b173)])) _
        refine st185.trans ?_
        show Steps p.tables e below (T185.setTop (mkF m 185 #[.val (.int p1), .val (.int p2), .val (.int p3), .val (.int p4), .val (.ref b1), .val (.ref b15), .val (.ref b24), .val vr33, .val (.ref b15), .val vt119, .val (.ref o121), .val (.int (1 : Int32)), .val (.ref b129), .unset] [(.ref a_EMPTY_LIST), (.ref a_EMPTY_LIST), (.ref b129), vr33, (.ref b173), (.ref b173)])) _
        refine XS.aload X185.here hx rfl (hb hby at_185) rfl rfl ?_
        show Steps p.tables e below (T185.setTop (mkF m 187 #[.val (.int p1), .val (.int p2), .val (.int p3), .val (.int p4), .val (.ref b1), .val (.ref b15), .val (.ref b24), .val vr33, .val (.ref b15), .val vt119, .val (.ref o121), .val (.int (1 : Int32)), .val (.ref b129), .unset] [(.ref o121), (.ref a_EMPTY_LIST), (.ref a_EMPTY_LIST), (.ref b129), vr33, (.ref b173), (.ref b173)])) _
        refine st187.trans ?_
        show Steps p.tables e below (T187.setTop (mkF m 190 #[.val (.int p1), .val (.int p2), .val (.int p3), .val (.int p4), .val (.ref b1), .val (.ref b15), .val (.ref b24), .val vr33, .val (.ref b15), .val vt119, .val (.ref o121), .val (.int (1 : Int32)), .val (.ref b129), .unset] [(.ref a_EMPTY_SET), (.ref a_EMPTY_LIST), (.ref a_EMPTY_LIST), (.ref b129), vr33, (.ref b173), (.ref b173)])) _
        refine st194.trans ?_
        show Steps p.tables e below (T194.setTop (mkF m 193 #[.val (.int p1), .val (.int p2), .val (.int p3), .val (.int p4), .val (.ref b1), .val (.ref b15), .val (.ref b24), .val vr33, .val (.ref b15), .val vt119, .val (.ref o121), .val (.int (1 : Int32)), .val (.ref b129), .unset] [(.ref b173)])) _
        refine XS.astore X194.here hx rfl (hb hby at_193) rfl rfl (l' := #[.val (.int p1), .val (.int p2), .val (.int p3), .val (.int p4), .val (.ref b1), .val (.ref b15), .val (.ref b24), .val vr33, .val (.ref b15), .val vt119, .val (.ref o121), .val (.int (1 : Int32)), .val (.ref b129), .val (.ref b173)]) rfl ?_
        show Steps p.tables e below (T194.setTop (mkF m 195 #[.val (.int p1), .val (.int p2), .val (.int p3), .val (.int p4), .val (.ref b1), .val (.ref b15), .val (.ref b24), .val vr33, .val (.ref b15), .val vt119, .val (.ref o121), .val (.int (1 : Int32)), .val (.ref b129), .val (.ref b173)] [])) _
        refine XS.iload X194.here hx rfl (hb hby at_195) rfl ?_
        show Steps p.tables e below (T194.setTop (mkF m 197 #[.val (.int p1), .val (.int p2), .val (.int p3), .val (.int p4), .val (.ref b1), .val (.ref b15), .val (.ref b24), .val vr33, .val (.ref b15), .val vt119, .val (.ref o121), .val (.int (1 : Int32)), .val (.ref b129), .val (.ref b173)] [(.int (1 : Int32))])) _
        refine XS.ifNo X194.here hx rfl (hb hby at_197) rfl (by decide) ?_
        show Steps p.tables e below (T194.setTop (mkF m 200 #[.val (.int p1), .val (.int p2), .val (.int p3), .val (.int p4), .val (.ref b1), .val (.ref b15), .val (.ref b24), .val vr33, .val (.ref b15), .val vt119, .val (.ref o121), .val (.int (1 : Int32)), .val (.ref b129), .val (.ref b173)] [])) _
        refine XS.aload X194.here hx rfl (hb hby at_200) rfl rfl ?_
        show Steps p.tables e below (T194.setTop (mkF m 202 #[.val (.int p1), .val (.int p2), .val (.int p3), .val (.int p4), .val (.ref b1), .val (.ref b15), .val (.ref b24), .val vr33, .val (.ref b15), .val vt119, .val (.ref o121), .val (.int (1 : Int32)), .val (.ref b129), .val (.ref b173)] [(.ref b173)])) _
        refine st197.trans ?_
        show Steps p.tables e below (T197.setTop (mkF m 205 #[.val (.int p1), .val (.int p2), .val (.int p3), .val (.int p4), .val (.ref b1), .val (.ref b15), .val (.ref b24), .val vr33, .val (.ref b15), .val vt119, .val (.ref o121), .val (.int (1 : Int32)), .val (.ref b129), .val (.ref b173)] [(.int (0 : Int32))])) _
        refine XS.ifNo X197.here hx rfl (hb hby at_205) rfl (by decide) ?_
        show Steps p.tables e below (T197.setTop (mkF m 208 #[.val (.int p1), .val (.int p2), .val (.int p3), .val (.int p4), .val (.ref b1), .val (.ref b15), .val (.ref b24), .val vr33, .val (.ref b15), .val vt119, .val (.ref o121), .val (.int (1 : Int32)), .val (.ref b129), .val (.ref b173)] [])) _
        refine XS.aload X197.here hx rfl (hb hby at_208) rfl rfl ?_
        show Steps p.tables e below (T197.setTop (mkF m 210 #[.val (.int p1), .val (.int p2), .val (.int p3), .val (.int p4), .val (.ref b1), .val (.ref b15), .val (.ref b24), .val vr33, .val (.ref b15), .val vt119, .val (.ref o121), .val (.int (1 : Int32)), .val (.ref b129), .val (.ref b173)] [(.ref b173)])) _
        refine st198.trans ?_
        show Steps p.tables e below (T198.setTop (mkF m 213 #[.val (.int p1), .val (.int p2), .val (.int p3), .val (.int p4), .val (.ref b1), .val (.ref b15), .val (.ref b24), .val vr33, .val (.ref b15), .val vt119, .val (.ref o121), .val (.int (1 : Int32)), .val (.ref b129), .val (.ref b173)] [.null])) _
        refine XS.ifnonnullNo X198.here hx rfl (hb hby at_213) rfl ?_
        show Steps p.tables e below (T198.setTop (mkF m 216 #[.val (.int p1), .val (.int p2), .val (.int p3), .val (.int p4), .val (.ref b1), .val (.ref b15), .val (.ref b24), .val vr33, .val (.ref b15), .val vt119, .val (.ref o121), .val (.int (1 : Int32)), .val (.ref b129), .val (.ref b173)] [])) _
        refine XT.iconstV X198.here hx rfl (1 : Int32) (hb hby at_216) (by decide) ?_
        show Steps p.tables e below (T198.setTop (mkF m 217 #[.val (.int p1), .val (.int p2), .val (.int p3), .val (.int p4), .val (.ref b1), .val (.ref b15), .val (.ref b24), .val vr33, .val (.ref b15), .val vt119, .val (.ref o121), .val (.int (1 : Int32)), .val (.ref b129), .val (.ref b173)] [(.int (1 : Int32))])) _
        refine XS.goto X198.here hx rfl (pc0 := 217) (pc' := 221) rfl (hb hby at_217) (by decide) (by decide) ?_
        show Steps p.tables e below (T198.setTop (mkF m 221 #[.val (.int p1), .val (.int p2), .val (.int p3), .val (.int p4), .val (.ref b1), .val (.ref b15), .val (.ref b24), .val vr33, .val (.ref b15), .val vt119, .val (.ref o121), .val (.int (1 : Int32)), .val (.ref b129), .val (.ref b173)] [(.int (1 : Int32))])) _
        refine XS.istore X198.here hx rfl (hb hby at_221) rfl (l' := #[.val (.int p1), .val (.int p2), .val (.int p3), .val (.int p4), .val (.ref b1), .val (.ref b15), .val (.ref b24), .val vr33, .val (.ref b15), .val vt119, .val (.ref o121), .val (.int (1 : Int32)), .val (.ref b129), .val (.ref b173)]) rfl ?_
        show Steps p.tables e below (T198.setTop (mkF m 223 #[.val (.int p1), .val (.int p2), .val (.int p3), .val (.int p4), .val (.ref b1), .val (.ref b15), .val (.ref b24), .val vr33, .val (.ref b15), .val vt119, .val (.ref o121), .val (.int (1 : Int32)), .val (.ref b129), .val (.ref b173)] [])) _
        refine XS.iload X198.here hx rfl (hb hby at_223) rfl ?_
        exact k_
      obtain ⟨fs, hr, hrun, hended, hW, hsame⟩ := X198.leave (v := (some (.int (1 : Int32)))) (fun h => by rw [Bd.returns] at h; cases h)
      refine ⟨_, _, S199 _ ((retN X198 hx (t := .boolean) Bd.returns (by simp) (hb hby at_225) hr)), hrun, hended, _, _, rfl, ?_, ⟨_, rfl⟩, hW, hsame.mono (by decide) (by decide)⟩
      show Q_law Z p1 p2 p3 p4 cz a_EMPTY_LIST a_EMPTY_SET a_DEFAULTCAPACITY_EMPTY_ELEMENTDATA a_EMPTY k_a_DEFAULTCAPACITY_EMPTY_ELEMENTDATA mO h0 n0 _ T198.heap _
      rw [Kq198]
      exact ⟨rfl, N198⟩
set_option maxRecDepth 65536 in
set_option maxHeartbeats 40000000 in
theorem comes_1 {Post : Tables → Env → Array Value → State → Outcome → State → Prop} (hpost : ∀ tb e args s v u, (limb_1_1.after args s (.returned v) u = true ∧ limb_1_2.after args s (.returned v) u = true ∧ True) → FrameEnd s (.returned v) u (Jvm.fieldLocs frame_1_writes args s ++ Jvm.arrayLocs frame_1_arrays args s ++ Jvm.staticLocs frame_1_statics s) 40 192 → Post tb e args s (.returned v) u) :
    ArmFor flags0 classFile x code maxLocals ret World_1 tables_1 room_1 Calls_1 rest_1 Pre_1 Post := by
  intro l hfl _ _ p e ha hc hk s m args below hf hA hF happ hP
  obtain ⟨hcalls, hrest, hpre⟩ := hP
  obtain ⟨-, -, -, hnamed, -, -, -, hat⟩ := (Spec.applies_iff hf).mp happ
  obtain ⟨hg, hn⟩ := and_e (Cond.before_iff.mp (show (Jvm.Cond.and given_1 narrow_1).before args s = true from hpre))
  obtain ⟨g102, g103⟩ := and_e hg
  obtain ⟨g104, g105⟩ := and_e g103
  obtain ⟨g106, g107⟩ := and_e g105
  obtain ⟨g108, g109⟩ := and_e g107
  obtain ⟨w0, w1, w2, w3, rfl⟩ : ∃ w0 w1 w2 w3 : Value, args = #[w0, w1, w2, w3] := by
    have hs : args.size = 4 := by simpa [Cond.value, given_1] using g102
    obtain ⟨L⟩ := args
    match L, hs with
    | [w0, w1, w2, w3], _ => exact ⟨w0, w1, w2, w3, rfl⟩
  have hw := fun d (hd : d ∈ tables_1) => atoms_spec (ws := Jvm.Cond.code x code maxLocals ret :: tables_1) hat d (List.mem_cons_of_mem _ hd)
  have hfit : Fit s := fun {y c} hc i hi => by
    obtain ⟨ha, rfl⟩ := Array.getElem?_eq_some_iff.mp hc
    have q := List.all_eq_true.mp ((Array.all_eq_true_iff_forall_mem.mp hF) _ (Array.getElem_mem ha)) i (List.mem_range.mpr hi)
    simpa [Array.getElem?_eq_getElem hi] using q
  obtain ⟨hsets, hown0⟩ := atoms_of _ (rest_1_c_eq ▸ (show rest_1_c.before _ s = true from hrest))
  have hr0 := Cond.before_iff.mp hown0
  obtain ⟨i0, ei0⟩ := is_v g104
  obtain rfl : w0 = (.int i0) := Option.some.inj ei0
  obtain ⟨i1, ei1⟩ := is_v g106
  obtain rfl : w1 = (.int i1) := Option.some.inj ei1
  obtain ⟨i2, ei2⟩ := is_v g108
  obtain rfl : w2 = (.int i2) := Option.some.inj ei2
  obtain ⟨i3, ei3⟩ := is_v g109
  obtain rfl : w3 = (.int i3) := Option.some.inj ei3
  obtain ⟨cz, ecz⟩ := is_v (Cond.before_iff.mp (hsets _ (List.mem_of_getElem? (i := 1) rfl)))
  have Scz : Sta s s.heap "java/lang/String" "COMPACT_STRINGS" "Z" (.int cz) := Sta.start ecz (Or.inl (hsets _ (List.mem_of_getElem? (i := 0) rfl)))
  have hcz : ¬ cz = (0 : Int32) := gotF (Cond.eq_ints ecz (Term.int_eval (0))) (not_v (Cond.before_iff.mp (hsets _ (List.mem_of_getElem? (i := 2) rfl))))
  obtain ⟨a_EMPTY_LIST, e_a_EMPTY_LIST⟩ := exa_v (Cond.before_iff.mp (hsets _ (List.mem_of_getElem? (i := 11) rfl)))
  have S_EMPTY_LIST : Sta s s.heap "java/util/ImmutableCollections" "EMPTY_LIST" "Ljava/util/ImmutableCollections$ListN;" (.ref a_EMPTY_LIST) := Sta.start e_a_EMPTY_LIST (Or.inl (hsets _ (List.mem_of_getElem? (i := 10) rfl)))
  have E_a_EMPTY_LIST := Exa.start e_a_EMPTY_LIST (Cond.before_iff.mp (hsets _ (List.mem_of_getElem? (i := 11) rfl)))
  have l_1 := own_eqI (Cond.before_iff.mp (hsets _ (List.mem_of_getElem? (i := 15) rfl)))
  have F_a_EMPTY_LIST_allowNulls : Fld s s.heap a_EMPTY_LIST "java/util/ImmutableCollections$ListN" "allowNulls" "Z" (.int (0 : Int32)) := Fld.start ((fld_at e_a_EMPTY_LIST).symm.trans l_1)
  obtain ⟨a_EMPTY_SET, e_a_EMPTY_SET⟩ := exa_v (Cond.before_iff.mp (hsets _ (List.mem_of_getElem? (i := 18) rfl)))
  have S_EMPTY_SET : Sta s s.heap "java/util/ImmutableCollections" "EMPTY_SET" "Ljava/util/ImmutableCollections$SetN;" (.ref a_EMPTY_SET) := Sta.start e_a_EMPTY_SET (Or.inl (hsets _ (List.mem_of_getElem? (i := 17) rfl)))
  have E_a_EMPTY_SET := Exa.start e_a_EMPTY_SET (Cond.before_iff.mp (hsets _ (List.mem_of_getElem? (i := 18) rfl)))
  obtain ⟨a_DEFAULTCAPACITY_EMPTY_ELEMENTDATA, e_a_DEFAULTCAPACITY_EMPTY_ELEMENTDATA⟩ := arr_v (Cond.before_iff.mp (hsets _ (List.mem_of_getElem? (i := 29) rfl)))
  have S_DEFAULTCAPACITY_EMPTY_ELEMENTDATA : Sta s s.heap "java/util/ArrayList" "DEFAULTCAPACITY_EMPTY_ELEMENTDATA" "[Ljava/lang/Object;" (.ref a_DEFAULTCAPACITY_EMPTY_ELEMENTDATA) := Sta.start e_a_DEFAULTCAPACITY_EMPTY_ELEMENTDATA (Or.inr ⟨(tw116 hw), (hsets _ (List.mem_of_getElem? (i := 25) rfl))⟩)
  obtain ⟨cl_a_DEFAULTCAPACITY_EMPTY_ELEMENTDATA, Ar_a_DEFAULTCAPACITY_EMPTY_ELEMENTDATA⟩ := Arr.start e_a_DEFAULTCAPACITY_EMPTY_ELEMENTDATA (Cond.before_iff.mp (hsets _ (List.mem_of_getElem? (i := 29) rfl)))
  have E_a_DEFAULTCAPACITY_EMPTY_ELEMENTDATA := Exa.start e_a_DEFAULTCAPACITY_EMPTY_ELEMENTDATA (Cond.before_iff.mp (hsets _ (List.mem_of_getElem? (i := 30) rfl)))
  have l_2 := own_eqI (Cond.before_iff.mp (hsets _ (List.mem_of_getElem? (i := 31) rfl)))
  obtain ⟨a_EMPTY, e_a_EMPTY⟩ := exa_v (Cond.before_iff.mp (hsets _ (List.mem_of_getElem? (i := 34) rfl)))
  have S_EMPTY : Sta s s.heap "java/util/ImmutableCollections" "EMPTY" "Ljava/lang/Object;" (.ref a_EMPTY) := Sta.start e_a_EMPTY (Or.inl (hsets _ (List.mem_of_getElem? (i := 33) rfl)))
  have E_a_EMPTY := Exa.start e_a_EMPTY (Cond.before_iff.mp (hsets _ (List.mem_of_getElem? (i := 34) rfl)))
  have z_a_DEFAULTCAPACITY_EMPTY_ELEMENTDATA := own_len e_a_DEFAULTCAPACITY_EMPTY_ELEMENTDATA Ar_a_DEFAULTCAPACITY_EMPTY_ELEMENTDATA l_2
  have A_a_DEFAULTCAPACITY_EMPTY_ELEMENTDATA : Arv s s.heap a_DEFAULTCAPACITY_EMPTY_ELEMENTDATA cl_a_DEFAULTCAPACITY_EMPTY_ELEMENTDATA.cls (.object "java/lang/Object") (0 : Int32) [] .null := Arv.start hfit Ar_a_DEFAULTCAPACITY_EMPTY_ELEMENTDATA z_a_DEFAULTCAPACITY_EMPTY_ELEMENTDATA.1 z_a_DEFAULTCAPACITY_EMPTY_ELEMENTDATA.2 (by decide) rfl trivial
  obtain ⟨⟨cM, kM, mO, hM1, hM2, hM3, -⟩, -⟩ := hcalls
  obtain ⟨n, o, h1, h2, h3, _, L, rfl, ⟨rfl, N⟩, hq⟩ := rm_law l s _ hw tables_1 i0 i1 i2 i3 cz a_EMPTY_LIST a_EMPTY_SET a_DEFAULTCAPACITY_EMPTY_ELEMENTDATA a_EMPTY cl_a_DEFAULTCAPACITY_EMPTY_ELEMENTDATA.cls mO s.heap s.heap.size (Nat.le_refl _) (Old.start s) Scz hcz S_EMPTY_LIST E_a_EMPTY_LIST F_a_EMPTY_LIST_allowNulls S_EMPTY_SET E_a_EMPTY_SET S_DEFAULTCAPACITY_EMPTY_ELEMENTDATA E_a_DEFAULTCAPACITY_EMPTY_ELEMENTDATA S_EMPTY E_a_EMPTY A_a_DEFAULTCAPACITY_EMPTY_ELEMENTDATA ⟨cM, kM, hM1, hM2, hM3⟩ p e ha hc hk s m _ below hf ((Spec.applies_iff_loose hf).mp happ).1 ⟨rfl, State.Warmed39.refl s, rfl⟩ trivial
  refine ⟨n, _, h1, h2, h3, hpost _ _ _ _ _ _ ⟨Cond.after_iff.mpr rfl, Cond.after_iff.mpr (eq_i res_at (Term.int_eval (1)) rfl), trivial⟩ ⟨hq.1, hq.2.1, (hq.2.2.sift fun y hy => Or.inr (N y hy)).mono (by decide) (by decide)⟩⟩
theorem main_1_1 : Claimed_1_1 := comes_1 fun _ _ _ _ _ _ h hF => ⟨h.1, hF⟩
theorem main_1_2 : Claimed_1_2 := comes_1 fun _ _ _ _ _ _ h hF => ⟨h.2.1, hF⟩
end Jvm.Pilot.@@N@@
namespace Jvm.Pilot.@@N@@
open Jvm Jvm.ClassFile Sem Op Lib Jvm.Free Jvm.Stand Jvm.Pilot.@@N@@.Jvm.D
/-! MADE BY PROGRAM (witnessworld.py) out of the Statement's table words and the real class files: 42 classes; the members and pool entries that the words name. The judged class is class 1, her method 1. -/
namespace start1
open Jvm.ClassFile
def u (s : String) : CpInfo := .utf8 (stringToUtf16 s)
/-- a pool by its gaps: so many unusable entries, then the entry; so many at the end -/
def gap : Nat → List CpInfo → List CpInfo
  | 0, r => r
  | n + 1, r => .unusable :: gap n r
def poolList (es : List (Nat × CpInfo)) (last : Nat) : List CpInfo := es.foldr (fun e r => gap e.1 (e.2 :: r)) (gap last [])
def pool (es : List (Nat × CpInfo)) (last : Nat) : Array CpInfo := ⟨poolList es last⟩
def fileOf (pool : Array CpInfo) (this : Nat) (attrs : Array Attribute := #[]) (ms : Array MethodInfo := #[]) (fl : Nat := 33) (sup : Nat := 0) (ifs : Array Nat := #[]) (fds : Array FieldInfo := #[]) : ClassFile where
  minorVersion := 0
  majorVersion := 65
  constantPool := pool
  accessFlags := fl
  thisClass := this
  superClass := sup
  interfaces := ifs
  fields := fds
  methods := ms
  attributes := attrs
def plain (name : String) (sup : Option ClassId) : Class where
  name := name
  kind := .ordinary
  loader := none
  accessFlags := 33
  super := sup
  interfaces := #[]
  cf := none
  fields := #[]
  methods := #[]
  instanceTypes := #[]
  staticTypes := #[]
  resolved := #[]
  callSites := []
  init := .initialized
  statics := none
  mirror := none

def pool0 : Array CpInfo := pool [(5, u "<init>"), (0, u "()V"), (1, .class_ 10), (1, u "java/lang/Object"), (0, u "getClass"), (0, u "()Ljava/lang/Class;")] 111

def k0c0 : Code := { maxStack := 0, maxLocals := 1, code := object_method_1_code, exceptionTable := #[], attributes := #[] }
def k0m0 : Method := { name := "<init>", desc := "()V", sig := { parameters := [], returnType := none }, accessFlags := 1, code := some k0c0 }
def k0m1 : Method := { name := "getClass", desc := "()Ljava/lang/Class;", sig := { parameters := [], returnType := some (.object "java/lang/Class") }, accessFlags := 273, code := none }
/-- java/lang/Object -/
def k0 : Class := { plain "java/lang/Object" none with
  accessFlags := 33
  interfaces := #[]
  cf := some (fileOf pool0 8 #[] #[{ accessFlags := 1, nameIndex := 5, descriptorIndex := 6, attributes := #[] }, { accessFlags := 273, nameIndex := 11, descriptorIndex := 12, attributes := #[] }] 33 0 #[] #[])
  fields := #[]
  methods := #[k0m0, k0m1]
  instanceTypes := #[]
  staticTypes := #[]
  resolved := Array.replicate 124 none
  statics := none }

def pool1 : Array CpInfo := pool [(2, .class_ 4), (0, .nameAndType 5 6), (0, u "java/lang/Object"), (0, u "<init>"), (0, u "()V"), (0, .class_ 8), (0, u "java/lang/String"), (0, .methodref 7 10), (0, .nameAndType 5 11), (0, u "([C)V"), (0, .methodref 7 13), (0, .nameAndType 14 15), (0, u "valueOf"), (0, u "(C)Ljava/lang/String;"), (0, .methodref 17 18), (0, .class_ 19), (0, .nameAndType 20 21), (0, u "com/example/fetcher/client/Received"), (0, u "error"), (0, u "(Ljava/lang/String;Ljava/lang/String;Ljava/lang/String;)Lcom/example/fetcher/client/Received;"), (0, .methodref 17 23), (0, .nameAndType 24 25), (0, u "isError"), (0, u "()Z"), (0, .methodref 17 27), (0, .nameAndType 28 29), (0, u "errorCode"), (0, u "()Ljava/lang/String;"), (0, .class_ 31), (0, u "java/util/ArrayList"), (0, .methodref 30 3), (0, .methodref 30 34), (0, .nameAndType 35 36), (0, u "add"), (0, u "(Ljava/lang/Object;)Z"), (0, .methodref 17 38), (0, .nameAndType 39 40), (0, u "returned"), (0, u "()Ljava/util/List;"), (0, .methodref 17 42), (0, .nameAndType 43 40), (0, u "told"), (0, .methodref 17 45), (0, .nameAndType 46 47), (0, u "versions"), (0, u "()Ljava/util/Set;"), (0, .methodref 17 49), (0, .nameAndType 5 50), (0, u "(Ljava/lang/String;Ljava/util/List;Ljava/util/List;Ljava/util/List;Ljava/util/Set;)V"), (0, .class_ 52), (0, u "com/example/fetcher/client/ReceivedIsErrorPinLaw"), (2, u "law"), (0, u "(IIII)Z")] 3

def k1m0 : Method := { name := "<init>", desc := "()V", sig := { parameters := [], returnType := none }, accessFlags := 2, code := none }
def k1c1 : Code := { maxStack := 7, maxLocals := 14, code := code, exceptionTable := #[], attributes := #[] }
def k1m1 : Method := { name := "law", desc := "(IIII)Z", sig := { parameters := [.int, .int, .int, .int], returnType := some .boolean }, accessFlags := 9, code := some k1c1 }
/-- com/example/fetcher/client/ReceivedIsErrorPinLaw -/
def k1 : Class := { plain "com/example/fetcher/client/ReceivedIsErrorPinLaw" (some 0) with
  accessFlags := 49
  interfaces := #[]
  cf := some (fileOf pool1 51 #[] #[{ accessFlags := 2, nameIndex := 5, descriptorIndex := 6, attributes := #[] }, { accessFlags := 9, nameIndex := 55, descriptorIndex := 56, attributes := #[] }] 49 2 #[] #[])
  fields := #[]
  methods := #[k1m0, k1m1]
  instanceTypes := #[]
  staticTypes := #[]
  resolved := Array.replicate 60 none
  statics := none }

def pool2 : Array CpInfo := pool [(1, .class_ 2), (0, u "java/io/Serializable"), (0, .class_ 4), (0, u "java/lang/Object")] 2

/-- java/io/Serializable -/
def k2 : Class := { plain "java/io/Serializable" (some 0) with
  accessFlags := 1537
  interfaces := #[]
  cf := some (fileOf pool2 1 #[] #[] 1537 3 #[] #[])
  fields := #[]
  methods := #[]
  instanceTypes := #[]
  staticTypes := #[]
  resolved := Array.replicate 7 none
  statics := none }

def pool3 : Array CpInfo := pool [(1, .class_ 2), (0, u "java/lang/Comparable"), (0, .class_ 4), (0, u "java/lang/Object")] 7

/-- java/lang/Comparable -/
def k3 : Class := { plain "java/lang/Comparable" (some 0) with
  accessFlags := 1537
  interfaces := #[]
  cf := some (fileOf pool3 1 #[] #[] 1537 3 #[] #[])
  fields := #[]
  methods := #[]
  instanceTypes := #[]
  staticTypes := #[]
  resolved := Array.replicate 12 none
  statics := none }

def pool4 : Array CpInfo := pool [(2, .class_ 4), (1, u "java/lang/CharSequence"), (42, .class_ 48), (0, u "java/lang/CharSequence$1CodePointIterator"), (10, .class_ 60), (0, u "java/lang/CharSequence$1CharIterator"), (5, .class_ 67), (0, u "java/lang/Object")] 63

/-- java/lang/CharSequence -/
def k4 : Class := { plain "java/lang/CharSequence" (some 0) with
  accessFlags := 1537
  interfaces := #[]
  cf := some (fileOf pool4 2 #[.nestMembers #[47, 59]] #[] 1537 66 #[] #[])
  fields := #[]
  methods := #[]
  instanceTypes := #[]
  staticTypes := #[]
  resolved := Array.replicate 131 none
  statics := none }

def pool5 : Array CpInfo := pool [(1, .class_ 2), (0, u "java/lang/constant/Constable"), (0, .class_ 4), (0, u "java/lang/Object")] 6

/-- java/lang/constant/Constable -/
def k5 : Class := { plain "java/lang/constant/Constable" (some 0) with
  accessFlags := 1537
  interfaces := #[]
  cf := some (fileOf pool5 1 #[] #[] 1537 3 #[] #[])
  fields := #[]
  methods := #[]
  instanceTypes := #[]
  staticTypes := #[]
  resolved := Array.replicate 11 none
  statics := none }

def pool6 : Array CpInfo := pool [(1, .class_ 2), (0, u "java/lang/constant/ConstantDesc"), (0, .class_ 4), (0, u "java/lang/Object")] 32

/-- java/lang/constant/ConstantDesc -/
def k6 : Class := { plain "java/lang/constant/ConstantDesc" (some 0) with
  accessFlags := 1537
  interfaces := #[]
  cf := some (fileOf pool6 1 #[] #[] 1537 3 #[] #[])
  fields := #[]
  methods := #[]
  instanceTypes := #[]
  staticTypes := #[]
  resolved := Array.replicate 37 none
  statics := none }

def pool7 : Array CpInfo := pool [(1, .methodref 2 3), (0, .class_ 4), (0, .nameAndType 5 6), (0, u "java/lang/Object"), (0, u "<init>"), (0, u "()V"), (2, .fieldref 10 11), (0, .class_ 12), (0, .nameAndType 13 14), (0, u "java/lang/String"), (0, u "value"), (0, u "[B"), (0, .fieldref 10 16), (0, .nameAndType 17 18), (0, u "coder"), (0, u "B"), (2, u "hash"), (0, u "I"), (2, u "hashIsZero"), (0, u "Z"), (0, .methodref 10 28), (0, .nameAndType 5 29), (0, u "([CIILjava/lang/Void;)V"), (8, .fieldref 10 39), (0, .nameAndType 40 26), (0, u "COMPACT_STRINGS"), (1, .class_ 44), (1, u "java/lang/StringUTF16"), (0, u "compress"), (1, .methodref 42 48), (0, .nameAndType 49 50), (0, u "coderFromArrayLen"), (0, u "([BI)B"), (2, u "toBytes"), (53, .class_ 109), (1, u "java/lang/StringLatin1"), (67, .methodref 42 178), (0, .nameAndType 45 179), (0, u "([CII)[B"), (29, .methodref 10 210), (0, .nameAndType 5 211), (0, u "([BB)V"), (157, u "(C)Z"), (205, .class_ 576), (0, u "java/lang/CharSequence"), (22, u "CASE_INSENSITIVE_ORDER"), (0, u "Ljava/util/Comparator;"), (181, u "valueOf"), (0, u "(C)Ljava/lang/String;"), (226, u "([C)V"), (4, .methodref 107 1016), (0, .nameAndType 1017 369), (0, u "canEncode"), (0, .methodref 107 1019), (0, .nameAndType 53 1020), (0, u "(C)[B"), (80, u "serialPersistentFields"), (0, u "[Ljava/io/ObjectStreamField;"), (0, .class_ 1104), (0, u "java/lang/String$CaseInsensitiveComparator"), (1, .class_ 1107), (0, u "java/io/Serializable"), (0, .class_ 1109), (0, u "java/lang/Comparable"), (0, .class_ 1111), (0, u "java/lang/constant/Constable"), (0, .class_ 1113), (0, u "java/lang/constant/ConstantDesc"), (2, u "serialVersionUID"), (0, u "J"), (3, u "REPL"), (0, u "C"), (2, u "LATIN1"), (1, u "UTF16")] 323

def k7m0 : Method := { name := "<init>", desc := "()V", sig := { parameters := [], returnType := none }, accessFlags := 1, code := none }
def k7c1 : Code := { maxStack := 5, maxLocals := 2, code := jdk_42_method_3_code, exceptionTable := #[], attributes := #[] }
def k7m1 : Method := { name := "<init>", desc := "([C)V", sig := { parameters := [(.array .char)], returnType := none }, accessFlags := 1, code := some k7c1 }
def k7c2 : Code := { maxStack := 4, maxLocals := 1, code := jdk_42_method_139_code, exceptionTable := #[], attributes := #[] }
def k7m2 : Method := { name := "valueOf", desc := "(C)Ljava/lang/String;", sig := { parameters := [.char], returnType := some (.object "java/lang/String") }, accessFlags := 9, code := some k7c2 }
def k7c3 : Code := { maxStack := 4, maxLocals := 6, code := jdk_42_method_149_code, exceptionTable := #[], attributes := #[] }
def k7m3 : Method := { name := "<init>", desc := "([CIILjava/lang/Void;)V", sig := { parameters := [(.array .char), .int, .int, (.object "java/lang/Void")], returnType := none }, accessFlags := 2, code := some k7c3 }
def k7c4 : Code := { maxStack := 2, maxLocals := 3, code := jdk_42_method_151_code, exceptionTable := #[], attributes := #[] }
def k7m4 : Method := { name := "<init>", desc := "([BB)V", sig := { parameters := [(.array .byte), .byte], returnType := none }, accessFlags := 0, code := some k7c4 }
/-- java/lang/String -/
def k7 : Class := { plain "java/lang/String" (some 0) with
  accessFlags := 49
  interfaces := #[2, 3, 4, 5, 6]
  cf := some (fileOf pool7 10 #[.nestMembers #[1103]] #[{ accessFlags := 1, nameIndex := 5, descriptorIndex := 6, attributes := #[] }, { accessFlags := 1, nameIndex := 5, descriptorIndex := 1010, attributes := #[] }, { accessFlags := 9, nameIndex := 782, descriptorIndex := 783, attributes := #[] }, { accessFlags := 2, nameIndex := 5, descriptorIndex := 29, attributes := #[] }, { accessFlags := 0, nameIndex := 5, descriptorIndex := 211, attributes := #[] }] 49 2 #[1106, 1108, 575, 1110, 1112] #[{ accessFlags := 18, nameIndex := 13, descriptorIndex := 14, attributes := #[] }, { accessFlags := 18, nameIndex := 17, descriptorIndex := 18, attributes := #[] }, { accessFlags := 2, nameIndex := 21, descriptorIndex := 22, attributes := #[] }, { accessFlags := 2, nameIndex := 25, descriptorIndex := 26, attributes := #[] }, { accessFlags := 26, nameIndex := 1116, descriptorIndex := 1117, attributes := #[] }, { accessFlags := 24, nameIndex := 40, descriptorIndex := 26, attributes := #[] }, { accessFlags := 26, nameIndex := 1101, descriptorIndex := 1102, attributes := #[] }, { accessFlags := 26, nameIndex := 1121, descriptorIndex := 1122, attributes := #[] }, { accessFlags := 25, nameIndex := 599, descriptorIndex := 600, attributes := #[] }, { accessFlags := 24, nameIndex := 1125, descriptorIndex := 18, attributes := #[] }, { accessFlags := 24, nameIndex := 1127, descriptorIndex := 18, attributes := #[] }])
  fields := #[{ name := "value", type := (.array .byte), accessFlags := 18, slot := 0, constantValue := 0 }, { name := "coder", type := .byte, accessFlags := 18, slot := 1, constantValue := 0 }, { name := "hash", type := .int, accessFlags := 2, slot := 2, constantValue := 0 }, { name := "hashIsZero", type := .boolean, accessFlags := 2, slot := 3, constantValue := 0 }, { name := "serialVersionUID", type := .long, accessFlags := 26, slot := 0, constantValue := 0 }, { name := "COMPACT_STRINGS", type := .boolean, accessFlags := 24, slot := 1, constantValue := 0 }, { name := "serialPersistentFields", type := (.array (.object "java/io/ObjectStreamField")), accessFlags := 26, slot := 2, constantValue := 0 }, { name := "REPL", type := .char, accessFlags := 26, slot := 3, constantValue := 0 }, { name := "CASE_INSENSITIVE_ORDER", type := (.object "java/util/Comparator"), accessFlags := 25, slot := 4, constantValue := 0 }, { name := "LATIN1", type := .byte, accessFlags := 24, slot := 5, constantValue := 0 }, { name := "UTF16", type := .byte, accessFlags := 24, slot := 6, constantValue := 0 }]
  methods := #[k7m0, k7m1, k7m2, k7m3, k7m4]
  instanceTypes := #[(.array .byte), .byte, .int, .boolean]
  staticTypes := #[.long, .boolean, (.array (.object "java/io/ObjectStreamField")), .char, (.object "java/util/Comparator"), .byte, .byte]
  resolved := Array.replicate 1451 none
  statics := some 0 }

def pool8 : Array CpInfo := pool [(6, .class_ 8), (1, u "java/lang/Object"), (0, u "<init>"), (0, u "()V"), (1, .class_ 14), (1, u "java/lang/StringUTF16"), (31, u "$assertionsDisabled"), (0, u "Z"), (13, u "HI_BYTE_SHIFT"), (0, u "I"), (2, u "LO_BYTE_SHIFT"), (49, .methodref 12 116), (0, .nameAndType 117 118), (0, u "compress"), (0, u "([CI[BII)I"), (3, u "([CII)[B"), (138, u "coderFromArrayLen"), (0, u "([BI)B"), (106, .class_ 371), (1, u "java/lang/StringUTF16$LinesSpliterator"), (58, u "MAX_LENGTH"), (196, .class_ 628), (0, u "java/lang/StringUTF16$CodePointsSpliterator"), (0, .class_ 630), (0, u "java/lang/StringUTF16$CharsSpliterator")] 4

def k8m0 : Method := { name := "<init>", desc := "()V", sig := { parameters := [], returnType := none }, accessFlags := 0, code := none }
def k8c1 : Code := { maxStack := 2, maxLocals := 2, code := jdk_52_method_15_code, exceptionTable := #[], attributes := #[] }
def k8m1 : Method := { name := "coderFromArrayLen", desc := "([BI)B", sig := { parameters := [(.array .byte), .int], returnType := some .byte }, accessFlags := 8, code := some k8c1 }
def k8c2 : Code := { maxStack := 5, maxLocals := 6, code := jdk_52_method_16_code, exceptionTable := #[], attributes := #[] }
def k8m2 : Method := { name := "compress", desc := "([CII)[B", sig := { parameters := [(.array .char), .int, .int], returnType := some (.array .byte) }, accessFlags := 9, code := some k8c2 }
def k8c3 : Code := { maxStack := 3, maxLocals := 7, code := jdk_52_method_21_code, exceptionTable := #[], attributes := #[] }
def k8m3 : Method := { name := "compress", desc := "([CI[BII)I", sig := { parameters := [(.array .char), .int, (.array .byte), .int, .int], returnType := some .int }, accessFlags := 9, code := some k8c3 }
/-- java/lang/StringUTF16 -/
def k8 : Class := { plain "java/lang/StringUTF16" (some 0) with
  accessFlags := 48
  interfaces := #[]
  cf := some (fileOf pool8 12 #[.nestMembers #[627, 629, 369]] #[{ accessFlags := 0, nameIndex := 9, descriptorIndex := 10, attributes := #[] }, { accessFlags := 8, nameIndex := 261, descriptorIndex := 262, attributes := #[] }, { accessFlags := 9, nameIndex := 117, descriptorIndex := 122, attributes := #[] }, { accessFlags := 9, nameIndex := 117, descriptorIndex := 118, attributes := #[] }] 48 6 #[] #[{ accessFlags := 26, nameIndex := 61, descriptorIndex := 62, attributes := #[] }, { accessFlags := 26, nameIndex := 65, descriptorIndex := 62, attributes := #[] }, { accessFlags := 24, nameIndex := 430, descriptorIndex := 62, attributes := #[] }, { accessFlags := 4120, nameIndex := 46, descriptorIndex := 47, attributes := #[] }])
  fields := #[{ name := "HI_BYTE_SHIFT", type := .int, accessFlags := 26, slot := 0, constantValue := 0 }, { name := "LO_BYTE_SHIFT", type := .int, accessFlags := 26, slot := 1, constantValue := 0 }, { name := "MAX_LENGTH", type := .int, accessFlags := 24, slot := 2, constantValue := 0 }, { name := "$assertionsDisabled", type := .boolean, accessFlags := 4120, slot := 3, constantValue := 0 }]
  methods := #[k8m0, k8m1, k8m2, k8m3]
  instanceTypes := #[]
  staticTypes := #[.int, .int, .int, .boolean]
  resolved := Array.replicate 635 none
  statics := none }

def pool9 : Array CpInfo := pool [(4, .class_ 6), (1, u "java/lang/Object"), (0, u "<init>"), (0, u "()V"), (5, .class_ 16), (1, u "java/lang/StringLatin1"), (73, u "canEncode"), (14, u "(C)Z"), (15, u "$assertionsDisabled"), (0, u "Z"), (98, .class_ 223), (1, u "java/lang/StringLatin1$LinesSpliterator"), (156, u "toBytes"), (1, u "(C)[B"), (7, .class_ 391), (0, u "java/lang/StringLatin1$CharsSpliterator")] 3

def k9m0 : Method := { name := "<init>", desc := "()V", sig := { parameters := [], returnType := none }, accessFlags := 0, code := none }
def k9c1 : Code := { maxStack := 2, maxLocals := 1, code := jdk_43_method_3_code, exceptionTable := #[], attributes := #[] }
def k9m1 : Method := { name := "canEncode", desc := "(C)Z", sig := { parameters := [.char], returnType := some .boolean }, accessFlags := 9, code := some k9c1 }
def k9c2 : Code := { maxStack := 4, maxLocals := 1, code := jdk_43_method_46_code, exceptionTable := #[], attributes := #[] }
def k9m2 : Method := { name := "toBytes", desc := "(C)[B", sig := { parameters := [.char], returnType := some (.array .byte) }, accessFlags := 9, code := some k9c2 }
/-- java/lang/StringLatin1 -/
def k9 : Class := { plain "java/lang/StringLatin1" (some 0) with
  accessFlags := 48
  interfaces := #[]
  cf := some (fileOf pool9 14 #[.nestMembers #[390, 221]] #[{ accessFlags := 0, nameIndex := 7, descriptorIndex := 8, attributes := #[] }, { accessFlags := 9, nameIndex := 90, descriptorIndex := 105, attributes := #[] }, { accessFlags := 9, nameIndex := 380, descriptorIndex := 382, attributes := #[] }] 48 4 #[] #[{ accessFlags := 4120, nameIndex := 121, descriptorIndex := 122, attributes := #[] }])
  fields := #[{ name := "$assertionsDisabled", type := .boolean, accessFlags := 4120, slot := 0, constantValue := 0 }]
  methods := #[k9m0, k9m1, k9m2]
  instanceTypes := #[]
  staticTypes := #[.boolean]
  resolved := Array.replicate 395 none
  statics := none }

def pool10 : Array CpInfo := pool [(1, .methodref 2 3), (0, .class_ 4), (0, .nameAndType 5 6), (0, u "com/example/fetcher/client/Received"), (0, u "<init>"), (0, u "(Ljava/lang/String;Ljava/lang/String;Ljava/lang/String;Ljava/util/List;Ljava/util/List;Ljava/util/List;Ljava/util/Set;)V"), (0, .methodref 8 9), (0, .class_ 10), (0, .nameAndType 5 11), (0, u "java/lang/Object"), (0, u "()V"), (0, .fieldref 2 13), (0, .nameAndType 14 15), (0, u "replyTo"), (0, u "Ljava/lang/String;"), (0, .fieldref 2 17), (0, .nameAndType 18 15), (0, u "errorCode"), (0, .fieldref 2 20), (0, .nameAndType 21 15), (0, u "errorText"), (0, .interfaceMethodref 23 24), (0, .class_ 25), (0, .nameAndType 26 27), (0, u "java/util/List"), (0, u "copyOf"), (0, u "(Ljava/util/Collection;)Ljava/util/List;"), (0, .fieldref 2 29), (0, .nameAndType 30 31), (0, u "resources"), (0, u "Ljava/util/List;"), (0, .fieldref 2 33), (0, .nameAndType 34 31), (0, u "returned"), (0, .fieldref 2 36), (0, .nameAndType 37 31), (0, u "told"), (0, .interfaceMethodref 39 40), (0, .class_ 41), (0, .nameAndType 26 42), (0, u "java/util/Set"), (0, u "(Ljava/util/Collection;)Ljava/util/Set;"), (0, .fieldref 2 44), (0, .nameAndType 45 46), (0, u "versions"), (0, u "Ljava/util/Set;"), (0, .interfaceMethodref 23 48), (0, .nameAndType 49 50), (0, u "of"), (0, u "()Ljava/util/List;"), (0, .interfaceMethodref 39 52), (0, .nameAndType 49 53), (0, u "()Ljava/util/Set;"), (4, u "(Ljava/lang/String;Ljava/util/List;Ljava/util/List;Ljava/util/List;Ljava/util/Set;)V"), (4, u "error"), (0, u "(Ljava/lang/String;Ljava/lang/String;Ljava/lang/String;)Lcom/example/fetcher/client/Received;"), (0, u "()Ljava/lang/String;"), (0, u "isError"), (0, u "()Z"), (7, .class_ 76), (0, u "com/example/fetcher/client/Received$Told"), (0, .class_ 78), (0, u "com/example/fetcher/client/Received$How")] 3

def k10c0 : Code := { maxStack := 8, maxLocals := 6, code := prog_4_method_1_code, exceptionTable := #[], attributes := #[] }
def k10m0 : Method := { name := "<init>", desc := "(Ljava/lang/String;Ljava/util/List;Ljava/util/List;Ljava/util/List;Ljava/util/Set;)V", sig := { parameters := [(.object "java/lang/String"), (.object "java/util/List"), (.object "java/util/List"), (.object "java/util/List"), (.object "java/util/Set")], returnType := none }, accessFlags := 0, code := some k10c0 }
def k10c1 : Code := { maxStack := 2, maxLocals := 8, code := prog_4_method_2_code, exceptionTable := #[], attributes := #[] }
def k10m1 : Method := { name := "<init>", desc := "(Ljava/lang/String;Ljava/lang/String;Ljava/lang/String;Ljava/util/List;Ljava/util/List;Ljava/util/List;Ljava/util/Set;)V", sig := { parameters := [(.object "java/lang/String"), (.object "java/lang/String"), (.object "java/lang/String"), (.object "java/util/List"), (.object "java/util/List"), (.object "java/util/List"), (.object "java/util/Set")], returnType := none }, accessFlags := 2, code := some k10c1 }
def k10c2 : Code := { maxStack := 9, maxLocals := 3, code := prog_4_method_3_code, exceptionTable := #[], attributes := #[] }
def k10m2 : Method := { name := "error", desc := "(Ljava/lang/String;Ljava/lang/String;Ljava/lang/String;)Lcom/example/fetcher/client/Received;", sig := { parameters := [(.object "java/lang/String"), (.object "java/lang/String"), (.object "java/lang/String")], returnType := some (.object "com/example/fetcher/client/Received") }, accessFlags := 8, code := some k10c2 }
def k10c3 : Code := { maxStack := 1, maxLocals := 1, code := prog_4_method_5_code, exceptionTable := #[], attributes := #[] }
def k10m3 : Method := { name := "isError", desc := "()Z", sig := { parameters := [], returnType := some .boolean }, accessFlags := 0, code := some k10c3 }
def k10c4 : Code := { maxStack := 1, maxLocals := 1, code := prog_4_method_6_code, exceptionTable := #[], attributes := #[] }
def k10m4 : Method := { name := "errorCode", desc := "()Ljava/lang/String;", sig := { parameters := [], returnType := some (.object "java/lang/String") }, accessFlags := 0, code := some k10c4 }
def k10c5 : Code := { maxStack := 1, maxLocals := 1, code := prog_4_method_9_code, exceptionTable := #[], attributes := #[] }
def k10m5 : Method := { name := "returned", desc := "()Ljava/util/List;", sig := { parameters := [], returnType := some (.object "java/util/List") }, accessFlags := 0, code := some k10c5 }
def k10c6 : Code := { maxStack := 1, maxLocals := 1, code := prog_4_method_10_code, exceptionTable := #[], attributes := #[] }
def k10m6 : Method := { name := "told", desc := "()Ljava/util/List;", sig := { parameters := [], returnType := some (.object "java/util/List") }, accessFlags := 0, code := some k10c6 }
def k10c7 : Code := { maxStack := 1, maxLocals := 1, code := prog_4_method_11_code, exceptionTable := #[], attributes := #[] }
def k10m7 : Method := { name := "versions", desc := "()Ljava/util/Set;", sig := { parameters := [], returnType := some (.object "java/util/Set") }, accessFlags := 0, code := some k10c7 }
/-- com/example/fetcher/client/Received -/
def k10 : Class := { plain "com/example/fetcher/client/Received" (some 0) with
  accessFlags := 48
  interfaces := #[]
  cf := some (fileOf pool10 2 #[.nestMembers #[75, 77]] #[{ accessFlags := 0, nameIndex := 5, descriptorIndex := 58, attributes := #[] }, { accessFlags := 2, nameIndex := 5, descriptorIndex := 6, attributes := #[] }, { accessFlags := 8, nameIndex := 63, descriptorIndex := 64, attributes := #[] }, { accessFlags := 0, nameIndex := 66, descriptorIndex := 67, attributes := #[] }, { accessFlags := 0, nameIndex := 18, descriptorIndex := 65, attributes := #[] }, { accessFlags := 0, nameIndex := 34, descriptorIndex := 50, attributes := #[] }, { accessFlags := 0, nameIndex := 37, descriptorIndex := 50, attributes := #[] }, { accessFlags := 0, nameIndex := 45, descriptorIndex := 53, attributes := #[] }] 48 8 #[] #[{ accessFlags := 18, nameIndex := 14, descriptorIndex := 15, attributes := #[] }, { accessFlags := 18, nameIndex := 18, descriptorIndex := 15, attributes := #[] }, { accessFlags := 18, nameIndex := 21, descriptorIndex := 15, attributes := #[] }, { accessFlags := 18, nameIndex := 30, descriptorIndex := 31, attributes := #[] }, { accessFlags := 18, nameIndex := 34, descriptorIndex := 31, attributes := #[] }, { accessFlags := 18, nameIndex := 37, descriptorIndex := 31, attributes := #[] }, { accessFlags := 18, nameIndex := 45, descriptorIndex := 46, attributes := #[] }])
  fields := #[{ name := "replyTo", type := (.object "java/lang/String"), accessFlags := 18, slot := 0, constantValue := 0 }, { name := "errorCode", type := (.object "java/lang/String"), accessFlags := 18, slot := 1, constantValue := 0 }, { name := "errorText", type := (.object "java/lang/String"), accessFlags := 18, slot := 2, constantValue := 0 }, { name := "resources", type := (.object "java/util/List"), accessFlags := 18, slot := 3, constantValue := 0 }, { name := "returned", type := (.object "java/util/List"), accessFlags := 18, slot := 4, constantValue := 0 }, { name := "told", type := (.object "java/util/List"), accessFlags := 18, slot := 5, constantValue := 0 }, { name := "versions", type := (.object "java/util/Set"), accessFlags := 18, slot := 6, constantValue := 0 }]
  methods := #[k10m0, k10m1, k10m2, k10m3, k10m4, k10m5, k10m6, k10m7]
  instanceTypes := #[(.object "java/lang/String"), (.object "java/lang/String"), (.object "java/lang/String"), (.object "java/util/List"), (.object "java/util/List"), (.object "java/util/List"), (.object "java/util/Set")]
  staticTypes := #[]
  resolved := Array.replicate 82 none
  statics := none }

def pool11 : Array CpInfo := pool [(8, .class_ 10), (1, u "java/lang/Iterable"), (24, .class_ 36), (0, u "java/lang/Object")] 25

/-- java/lang/Iterable -/
def k11 : Class := { plain "java/lang/Iterable" (some 0) with
  accessFlags := 1537
  interfaces := #[]
  cf := some (fileOf pool11 8 #[] #[] 1537 35 #[] #[])
  fields := #[]
  methods := #[]
  instanceTypes := #[]
  staticTypes := #[]
  resolved := Array.replicate 62 none
  statics := none }

def pool12 : Array CpInfo := pool [(10, .class_ 12), (1, u "java/util/Collection"), (0, u "toArray"), (16, u "()Z"), (29, .class_ 61), (0, u "java/lang/Object"), (0, .class_ 63), (0, u "java/lang/Iterable"), (2, u "isEmpty"), (3, u "()[Ljava/lang/Object;")] 44

def k12m0 : Method := { name := "isEmpty", desc := "()Z", sig := { parameters := [], returnType := some .boolean }, accessFlags := 1025, code := none }
def k12m1 : Method := { name := "toArray", desc := "()[Ljava/lang/Object;", sig := { parameters := [], returnType := some (.array (.object "java/lang/Object")) }, accessFlags := 1025, code := none }
/-- java/util/Collection -/
def k12 : Class := { plain "java/util/Collection" (some 0) with
  accessFlags := 1537
  interfaces := #[11]
  cf := some (fileOf pool12 10 #[] #[{ accessFlags := 1025, nameIndex := 66, descriptorIndex := 30, attributes := #[] }, { accessFlags := 1025, nameIndex := 13, descriptorIndex := 70, attributes := #[] }] 1537 60 #[62] #[])
  fields := #[]
  methods := #[k12m0, k12m1]
  instanceTypes := #[]
  staticTypes := #[]
  resolved := Array.replicate 115 none
  statics := none }

def pool13 : Array CpInfo := pool [(8, .class_ 10), (1, u "java/util/SequencedCollection"), (15, .class_ 27), (0, u "java/lang/Object"), (0, .class_ 29), (0, u "java/util/Collection")] 27

/-- java/util/SequencedCollection -/
def k13 : Class := { plain "java/util/SequencedCollection" (some 0) with
  accessFlags := 1537
  interfaces := #[12]
  cf := some (fileOf pool13 8 #[] #[] 1537 26 #[28] #[])
  fields := #[]
  methods := #[]
  instanceTypes := #[]
  staticTypes := #[]
  resolved := Array.replicate 57 none
  statics := none }

def pool14 : Array CpInfo := pool [(8, .class_ 10), (1, u "java/util/List"), (20, u "(Ljava/lang/Object;)V"), (16, u "<init>"), (39, u "of"), (1, .fieldref 91 92), (0, .class_ 93), (0, .nameAndType 94 95), (0, u "java/util/ImmutableCollections"), (0, u "EMPTY_LIST"), (0, u "Ljava/util/ImmutableCollections$ListN;"), (0, .class_ 97), (0, u "java/util/ImmutableCollections$List12"), (0, .methodref 96 99), (0, .nameAndType 48 31), (3, .class_ 104), (0, u "java/lang/Object"), (3, u "([Ljava/lang/Object;)Ljava/util/List;"), (3, .methodref 91 113), (0, .nameAndType 114 115), (0, u "listCopy"), (0, u "(Ljava/util/Collection;)Ljava/util/List;"), (3, u "()Ljava/util/List;"), (0, .class_ 121), (0, u "java/util/SequencedCollection"), (112, u "copyOf")] 16

def k14c0 : Code := { maxStack := 1, maxLocals := 0, code := jdk_40_method_36_code, exceptionTable := #[], attributes := #[] }
def k14m0 : Method := { name := "of", desc := "()Ljava/util/List;", sig := { parameters := [], returnType := some (.object "java/util/List") }, accessFlags := 9, code := some k14c0 }
def k14c1 : Code := { maxStack := 5, maxLocals := 2, code := jdk_40_method_47_code, exceptionTable := #[], attributes := #[] }
def k14m1 : Method := { name := "of", desc := "([Ljava/lang/Object;)Ljava/util/List;", sig := { parameters := [(.array (.object "java/lang/Object"))], returnType := some (.object "java/util/List") }, accessFlags := 137, code := some k14c1 }
def k14c2 : Code := { maxStack := 1, maxLocals := 1, code := jdk_40_method_48_code, exceptionTable := #[], attributes := #[] }
def k14m2 : Method := { name := "copyOf", desc := "(Ljava/util/Collection;)Ljava/util/List;", sig := { parameters := [(.object "java/util/Collection")], returnType := some (.object "java/util/List") }, accessFlags := 9, code := some k14c2 }
/-- java/util/List -/
def k14 : Class := { plain "java/util/List" (some 0) with
  accessFlags := 1537
  interfaces := #[13]
  cf := some (fileOf pool14 8 #[] #[{ accessFlags := 9, nameIndex := 88, descriptorIndex := 119, attributes := #[] }, { accessFlags := 137, nameIndex := 88, descriptorIndex := 108, attributes := #[] }, { accessFlags := 9, nameIndex := 234, descriptorIndex := 115, attributes := #[] }] 1537 103 #[120] #[])
  fields := #[]
  methods := #[k14m0, k14m1, k14m2]
  instanceTypes := #[]
  staticTypes := #[]
  resolved := Array.replicate 251 none
  statics := none }

def pool15 : Array CpInfo := pool [(2, .class_ 4), (1, u "java/lang/Object"), (0, u "<init>"), (0, u "()V"), (3, .class_ 11), (0, u "java/util/ImmutableCollections$List12"), (0, .class_ 13), (0, u "java/util/ImmutableCollections$ListN"), (0, .fieldref 12 15), (0, .nameAndType 16 17), (0, u "allowNulls"), (0, u "Z"), (0, .class_ 19), (0, u "java/util/List"), (0, .interfaceMethodref 21 22), (0, .class_ 23), (0, .nameAndType 24 25), (0, u "java/util/Collection"), (0, u "isEmpty"), (0, u "()Z"), (0, .interfaceMethodref 18 27), (0, .nameAndType 28 29), (0, u "of"), (0, u "()Ljava/util/List;"), (0, .interfaceMethodref 21 31), (0, .nameAndType 32 33), (0, u "toArray"), (0, u "()[Ljava/lang/Object;"), (0, .interfaceMethodref 18 35), (0, .nameAndType 28 36), (0, u "([Ljava/lang/Object;)Ljava/util/List;"), (10, .class_ 49), (1, u "java/util/ImmutableCollections"), (0, u "$assertionsDisabled"), (5, u "[Ljava/lang/Object;"), (5, u "EMPTY_LIST"), (0, u "Ljava/util/ImmutableCollections$ListN;"), (8, u "EMPTY_LIST_NULLS"), (22, u "SALT32L"), (0, u "J"), (2, u "REVERSE"), (6, u "archivedObjects"), (2, u "EMPTY"), (0, u "Ljava/lang/Object;"), (0, .class_ 112), (0, u "java/util/ImmutableCollections$SetN"), (5, u "EMPTY_SET"), (0, u "Ljava/util/ImmutableCollections$SetN;"), (0, .class_ 121), (0, u "java/util/ImmutableCollections$MapN"), (3, u "EMPTY_MAP"), (0, u "Ljava/util/ImmutableCollections$MapN;"), (4, u "EXPAND_FACTOR"), (0, u "I"), (9, u "listCopy"), (0, u "(Ljava/util/Collection;)Ljava/util/List;"), (25, .class_ 170), (0, u "java/util/ImmutableCollections$MapN$MapNIterator"), (0, .class_ 172), (0, u "java/util/ImmutableCollections$MapN$1"), (0, .class_ 174), (0, u "java/util/ImmutableCollections$Map1"), (0, .class_ 176), (0, u "java/util/ImmutableCollections$AbstractImmutableMap"), (0, .class_ 178), (0, u "java/util/ImmutableCollections$SetN$SetNIterator"), (0, .class_ 180), (0, u "java/util/ImmutableCollections$Set12"), (0, .class_ 182), (0, u "java/util/ImmutableCollections$Set12$1"), (0, .class_ 184), (0, u "java/util/ImmutableCollections$AbstractImmutableSet"), (0, .class_ 186), (0, u "java/util/ImmutableCollections$SubList"), (0, .class_ 188), (0, u "java/util/ImmutableCollections$ListItr"), (0, .class_ 190), (0, u "java/util/ImmutableCollections$AbstractImmutableList"), (0, .class_ 192), (0, u "java/util/ImmutableCollections$AbstractImmutableCollection"), (0, .class_ 194), (0, u "java/util/ImmutableCollections$Access"), (0, .class_ 196), (0, u "java/util/ImmutableCollections$Access$1")] 16

def k15m0 : Method := { name := "<init>", desc := "()V", sig := { parameters := [], returnType := none }, accessFlags := 2, code := none }
def k15c1 : Code := { maxStack := 1, maxLocals := 2, code := jdk_56_method_3_code, exceptionTable := #[], attributes := #[] }
def k15m1 : Method := { name := "listCopy", desc := "(Ljava/util/Collection;)Ljava/util/List;", sig := { parameters := [(.object "java/util/Collection")], returnType := some (.object "java/util/List") }, accessFlags := 8, code := some k15c1 }
/-- java/util/ImmutableCollections -/
def k15 : Class := { plain "java/util/ImmutableCollections" (some 0) with
  accessFlags := 32
  interfaces := #[]
  cf := some (fileOf pool15 47 #[.nestMembers #[120, 169, 171, 173, 175, 111, 177, 179, 181, 183, 12, 10, 185, 187, 189, 191, 193, 195]] #[{ accessFlags := 2, nameIndex := 5, descriptorIndex := 6, attributes := #[] }, { accessFlags := 8, nameIndex := 142, descriptorIndex := 143, attributes := #[] }] 32 2 #[] #[{ accessFlags := 26, nameIndex := 95, descriptorIndex := 96, attributes := #[] }, { accessFlags := 26, nameIndex := 99, descriptorIndex := 17, attributes := #[] }, { accessFlags := 10, nameIndex := 106, descriptorIndex := 56, attributes := #[] }, { accessFlags := 26, nameIndex := 109, descriptorIndex := 110, attributes := #[] }, { accessFlags := 24, nameIndex := 62, descriptorIndex := 63, attributes := #[] }, { accessFlags := 24, nameIndex := 72, descriptorIndex := 63, attributes := #[] }, { accessFlags := 24, nameIndex := 118, descriptorIndex := 119, attributes := #[] }, { accessFlags := 24, nameIndex := 125, descriptorIndex := 126, attributes := #[] }, { accessFlags := 24, nameIndex := 131, descriptorIndex := 132, attributes := #[] }, { accessFlags := 4120, nameIndex := 50, descriptorIndex := 17, attributes := #[] }])
  fields := #[{ name := "SALT32L", type := .long, accessFlags := 26, slot := 0, constantValue := 0 }, { name := "REVERSE", type := .boolean, accessFlags := 26, slot := 1, constantValue := 0 }, { name := "archivedObjects", type := (.array (.object "java/lang/Object")), accessFlags := 10, slot := 2, constantValue := 0 }, { name := "EMPTY", type := (.object "java/lang/Object"), accessFlags := 26, slot := 3, constantValue := 0 }, { name := "EMPTY_LIST", type := (.object "java/util/ImmutableCollections$ListN"), accessFlags := 24, slot := 4, constantValue := 0 }, { name := "EMPTY_LIST_NULLS", type := (.object "java/util/ImmutableCollections$ListN"), accessFlags := 24, slot := 5, constantValue := 0 }, { name := "EMPTY_SET", type := (.object "java/util/ImmutableCollections$SetN"), accessFlags := 24, slot := 6, constantValue := 0 }, { name := "EMPTY_MAP", type := (.object "java/util/ImmutableCollections$MapN"), accessFlags := 24, slot := 7, constantValue := 0 }, { name := "EXPAND_FACTOR", type := .int, accessFlags := 24, slot := 8, constantValue := 0 }, { name := "$assertionsDisabled", type := .boolean, accessFlags := 4120, slot := 9, constantValue := 0 }]
  methods := #[k15m0, k15m1]
  instanceTypes := #[]
  staticTypes := #[.long, .boolean, (.array (.object "java/lang/Object")), (.object "java/lang/Object"), (.object "java/util/ImmutableCollections$ListN"), (.object "java/util/ImmutableCollections$ListN"), (.object "java/util/ImmutableCollections$SetN"), (.object "java/util/ImmutableCollections$MapN"), .int, .boolean]
  resolved := Array.replicate 213 none
  statics := some 1 }

def pool16 : Array CpInfo := pool [(9, .fieldref 10 11), (0, .class_ 12), (0, .nameAndType 13 14), (0, u "java/util/ImmutableCollections"), (0, u "EMPTY_SET"), (0, u "Ljava/util/ImmutableCollections$SetN;"), (11, .class_ 27), (0, u "java/lang/Object"), (3, .class_ 32), (0, u "java/util/ImmutableCollections$AbstractImmutableSet"), (0, .class_ 34), (0, u "java/util/Set"), (1, .class_ 38), (1, u "java/util/Collection"), (4, u "of"), (0, u "()Ljava/util/Set;"), (86, u "copyOf"), (0, u "(Ljava/util/Collection;)Ljava/util/Set;")] 11

def k16c0 : Code := { maxStack := 1, maxLocals := 0, code := jdk_96_method_17_code, exceptionTable := #[], attributes := #[] }
def k16m0 : Method := { name := "of", desc := "()Ljava/util/Set;", sig := { parameters := [], returnType := some (.object "java/util/Set") }, accessFlags := 9, code := some k16c0 }
def k16c1 : Code := { maxStack := 3, maxLocals := 1, code := jdk_96_method_29_code, exceptionTable := #[], attributes := #[] }
def k16m1 : Method := { name := "copyOf", desc := "(Ljava/util/Collection;)Ljava/util/Set;", sig := { parameters := [(.object "java/util/Collection")], returnType := some (.object "java/util/Set") }, accessFlags := 9, code := some k16c1 }
/-- java/util/Set -/
def k16 : Class := { plain "java/util/Set" (some 0) with
  accessFlags := 1537
  interfaces := #[12]
  cf := some (fileOf pool16 33 #[] #[{ accessFlags := 9, nameIndex := 43, descriptorIndex := 44, attributes := #[] }, { accessFlags := 9, nameIndex := 131, descriptorIndex := 132, attributes := #[] }] 1537 26 #[36] #[])
  fields := #[]
  methods := #[k16m0, k16m1]
  instanceTypes := #[]
  staticTypes := #[]
  resolved := Array.replicate 144 none
  statics := none }

def pool17 : Array CpInfo := pool [(1, .methodref 2 3), (0, .class_ 4), (0, .nameAndType 5 6), (0, u "java/lang/Object"), (0, u "<init>"), (0, u "()V"), (1, .class_ 10), (1, u "java/util/AbstractCollection"), (66, .class_ 78), (0, u "java/util/Collection")] 81

def k17c0 : Code := { maxStack := 1, maxLocals := 1, code := jdk_22_method_1_code, exceptionTable := #[], attributes := #[] }
def k17m0 : Method := { name := "<init>", desc := "()V", sig := { parameters := [], returnType := none }, accessFlags := 4, code := some k17c0 }
/-- java/util/AbstractCollection -/
def k17 : Class := { plain "java/util/AbstractCollection" (some 0) with
  accessFlags := 1057
  interfaces := #[12]
  cf := some (fileOf pool17 8 #[] #[{ accessFlags := 4, nameIndex := 5, descriptorIndex := 6, attributes := #[] }] 1057 2 #[77] #[])
  fields := #[]
  methods := #[k17m0]
  instanceTypes := #[]
  staticTypes := #[]
  resolved := Array.replicate 160 none
  statics := none }

def pool18 : Array CpInfo := pool [(1, .methodref 2 3), (0, .class_ 4), (0, .nameAndType 5 6), (0, u "java/util/AbstractCollection"), (0, u "<init>"), (0, u "()V"), (1, .class_ 10), (1, u "java/util/ImmutableCollections"), (2, .class_ 14), (0, u "java/util/ImmutableCollections$AbstractImmutableCollection")] 41

def k18c0 : Code := { maxStack := 1, maxLocals := 1, code := jdk_47_method_1_code, exceptionTable := #[], attributes := #[] }
def k18m0 : Method := { name := "<init>", desc := "()V", sig := { parameters := [], returnType := none }, accessFlags := 0, code := some k18c0 }
/-- java/util/ImmutableCollections$AbstractImmutableCollection -/
def k18 : Class := { plain "java/util/ImmutableCollections$AbstractImmutableCollection" (some 17) with
  accessFlags := 1056
  interfaces := #[]
  cf := some (fileOf pool18 13 #[.nestHost 8] #[{ accessFlags := 0, nameIndex := 5, descriptorIndex := 6, attributes := #[] }] 1056 2 #[] #[])
  fields := #[]
  methods := #[k18m0]
  instanceTypes := #[]
  staticTypes := #[]
  resolved := Array.replicate 56 none
  statics := none }

def pool19 : Array CpInfo := pool [(1, .class_ 2), (0, u "java/util/RandomAccess"), (0, .class_ 4), (0, u "java/lang/Object")] 2

/-- java/util/RandomAccess -/
def k19 : Class := { plain "java/util/RandomAccess" (some 0) with
  accessFlags := 1537
  interfaces := #[]
  cf := some (fileOf pool19 1 #[] #[] 1537 3 #[] #[])
  fields := #[]
  methods := #[]
  instanceTypes := #[]
  staticTypes := #[]
  resolved := Array.replicate 7 none
  statics := none }

def pool20 : Array CpInfo := pool [(1, .methodref 2 3), (0, .class_ 4), (0, .nameAndType 5 6), (0, u "java/util/ImmutableCollections$AbstractImmutableCollection"), (0, u "<init>"), (0, u "()V"), (1, .class_ 10), (1, u "java/util/ImmutableCollections"), (3, .class_ 16), (1, u "java/util/ImmutableCollections$AbstractImmutableList"), (60, .class_ 78), (0, u "java/util/List"), (45, .class_ 125), (0, u "java/util/RandomAccess")] 70

def k20c0 : Code := { maxStack := 1, maxLocals := 1, code := jdk_46_method_1_code, exceptionTable := #[], attributes := #[] }
def k20m0 : Method := { name := "<init>", desc := "()V", sig := { parameters := [], returnType := none }, accessFlags := 0, code := some k20c0 }
/-- java/util/ImmutableCollections$AbstractImmutableList -/
def k20 : Class := { plain "java/util/ImmutableCollections$AbstractImmutableList" (some 18) with
  accessFlags := 1056
  interfaces := #[14, 19]
  cf := some (fileOf pool20 14 #[.nestHost 8] #[{ accessFlags := 0, nameIndex := 5, descriptorIndex := 6, attributes := #[] }] 1056 2 #[77, 124] #[])
  fields := #[]
  methods := #[k20m0]
  instanceTypes := #[]
  staticTypes := #[]
  resolved := Array.replicate 196 none
  statics := none }

def pool21 : Array CpInfo := pool [(1, .methodref 2 3), (0, .class_ 4), (0, .nameAndType 5 6), (0, u "java/util/ImmutableCollections$AbstractImmutableList"), (0, u "<init>"), (0, u "()V"), (0, .methodref 8 9), (0, .class_ 10), (0, .nameAndType 11 12), (0, u "java/util/Objects"), (0, u "requireNonNull"), (0, u "(Ljava/lang/Object;)Ljava/lang/Object;"), (0, .fieldref 14 15), (0, .class_ 16), (0, .nameAndType 17 18), (0, u "java/util/ImmutableCollections$List12"), (0, u "e0"), (0, u "Ljava/lang/Object;"), (0, .fieldref 20 21), (0, .class_ 22), (0, .nameAndType 23 18), (0, u "java/util/ImmutableCollections"), (0, u "EMPTY"), (0, .fieldref 14 25), (0, .nameAndType 26 18), (0, u "e1"), (43, .class_ 71), (0, u "java/io/Serializable"), (4, u "(Ljava/lang/Object;)V")] 48

def k21c0 : Code := { maxStack := 2, maxLocals := 2, code := jdk_44_method_1_code, exceptionTable := #[], attributes := #[] }
def k21m0 : Method := { name := "<init>", desc := "(Ljava/lang/Object;)V", sig := { parameters := [(.object "java/lang/Object")], returnType := none }, accessFlags := 0, code := some k21c0 }
/-- java/util/ImmutableCollections$List12 -/
def k21 : Class := { plain "java/util/ImmutableCollections$List12" (some 20) with
  accessFlags := 48
  interfaces := #[2]
  cf := some (fileOf pool21 14 #[.nestHost 20] #[{ accessFlags := 0, nameIndex := 5, descriptorIndex := 76, attributes := #[] }] 48 2 #[70] #[{ accessFlags := 18, nameIndex := 17, descriptorIndex := 18, attributes := #[] }, { accessFlags := 18, nameIndex := 26, descriptorIndex := 18, attributes := #[] }])
  fields := #[{ name := "e0", type := (.object "java/lang/Object"), accessFlags := 18, slot := 0, constantValue := 0 }, { name := "e1", type := (.object "java/lang/Object"), accessFlags := 18, slot := 1, constantValue := 0 }]
  methods := #[k21m0]
  instanceTypes := #[(.object "java/lang/Object"), (.object "java/lang/Object")]
  staticTypes := #[]
  resolved := Array.replicate 125 none
  statics := none }

def pool22 : Array CpInfo := pool [(2, .class_ 4), (1, u "java/util/ImmutableCollections$AbstractImmutableList"), (3, .class_ 10), (1, u "java/util/ImmutableCollections$ListN"), (0, u "elements"), (0, u "[Ljava/lang/Object;"), (2, u "allowNulls"), (0, u "Z"), (42, .class_ 60), (0, u "java/io/Serializable"), (53, .class_ 115), (0, u "java/util/ImmutableCollections")] 3

/-- java/util/ImmutableCollections$ListN -/
def k22 : Class := { plain "java/util/ImmutableCollections$ListN" (some 20) with
  accessFlags := 48
  interfaces := #[2]
  cf := some (fileOf pool22 8 #[.nestHost 114] #[] 48 2 #[59] #[{ accessFlags := 18, nameIndex := 11, descriptorIndex := 12, attributes := #[] }, { accessFlags := 18, nameIndex := 15, descriptorIndex := 16, attributes := #[] }])
  fields := #[{ name := "elements", type := (.array (.object "java/lang/Object")), accessFlags := 18, slot := 0, constantValue := 0 }, { name := "allowNulls", type := .boolean, accessFlags := 18, slot := 1, constantValue := 0 }]
  methods := #[]
  instanceTypes := #[(.array (.object "java/lang/Object")), .boolean]
  staticTypes := #[]
  resolved := Array.replicate 119 none
  statics := none }

def pool23 : Array CpInfo := pool [(2, .class_ 4), (1, u "java/util/ImmutableCollections$AbstractImmutableCollection"), (0, u "<init>"), (0, u "()V"), (0, .class_ 8), (0, u "java/util/Set"), (7, .class_ 17), (0, u "java/util/ImmutableCollections$AbstractImmutableSet"), (43, .class_ 62), (0, u "java/util/ImmutableCollections")] 3

def k23m0 : Method := { name := "<init>", desc := "()V", sig := { parameters := [], returnType := none }, accessFlags := 0, code := none }
/-- java/util/ImmutableCollections$AbstractImmutableSet -/
def k23 : Class := { plain "java/util/ImmutableCollections$AbstractImmutableSet" (some 18) with
  accessFlags := 1056
  interfaces := #[16]
  cf := some (fileOf pool23 16 #[.nestHost 61] #[{ accessFlags := 0, nameIndex := 5, descriptorIndex := 6, attributes := #[] }] 1056 2 #[7] #[])
  fields := #[]
  methods := #[k23m0]
  instanceTypes := #[]
  staticTypes := #[]
  resolved := Array.replicate 66 none
  statics := none }

def pool24 : Array CpInfo := pool [(1, .class_ 2), (0, u "java/util/ImmutableCollections"), (1, .class_ 6), (1, u "java/util/ImmutableCollections$AbstractImmutableSet"), (3, .class_ 12), (1, u "java/util/ImmutableCollections$SetN"), (0, u "size"), (0, u "I"), (4, u "elements"), (0, u "[Ljava/lang/Object;"), (86, .class_ 108), (0, u "java/io/Serializable")] 59

/-- java/util/ImmutableCollections$SetN -/
def k24 : Class := { plain "java/util/ImmutableCollections$SetN" (some 23) with
  accessFlags := 48
  interfaces := #[2]
  cf := some (fileOf pool24 10 #[.nestHost 1] #[] 48 4 #[107] #[{ accessFlags := 16, nameIndex := 19, descriptorIndex := 20, attributes := #[] }, { accessFlags := 16, nameIndex := 13, descriptorIndex := 14, attributes := #[] }])
  fields := #[{ name := "elements", type := (.array (.object "java/lang/Object")), accessFlags := 16, slot := 0, constantValue := 0 }, { name := "size", type := .int, accessFlags := 16, slot := 1, constantValue := 0 }]
  methods := #[]
  instanceTypes := #[(.array (.object "java/lang/Object")), .int]
  staticTypes := #[]
  resolved := Array.replicate 168 none
  statics := none }

def pool25 : Array CpInfo := pool [(1, .methodref 2 3), (0, .class_ 4), (0, .nameAndType 5 6), (0, u "java/util/AbstractCollection"), (0, u "<init>"), (0, u "()V"), (0, .fieldref 8 9), (0, .class_ 10), (0, .nameAndType 11 12), (0, u "java/util/AbstractList"), (0, u "modCount"), (0, u "I"), (64, .class_ 78), (0, u "java/util/AbstractList$Itr"), (3, .class_ 83), (0, u "java/util/AbstractList$ListItr"), (9, .class_ 94), (0, u "java/util/AbstractList$RandomAccessSubList"), (3, .class_ 99), (0, u "java/util/AbstractList$SubList"), (33, .class_ 134), (0, u "java/util/List"), (73, .class_ 209), (0, u "java/util/AbstractList$SubList$1"), (0, .class_ 211), (0, u "java/util/AbstractList$RandomAccessSpliterator")] 6

def k25c0 : Code := { maxStack := 2, maxLocals := 1, code := jdk_39_method_1_code, exceptionTable := #[], attributes := #[] }
def k25m0 : Method := { name := "<init>", desc := "()V", sig := { parameters := [], returnType := none }, accessFlags := 4, code := some k25c0 }
/-- java/util/AbstractList -/
def k25 : Class := { plain "java/util/AbstractList" (some 17) with
  accessFlags := 1057
  interfaces := #[14]
  cf := some (fileOf pool25 8 #[.nestMembers #[93, 98, 208, 210, 82, 77]] #[{ accessFlags := 4, nameIndex := 5, descriptorIndex := 6, attributes := #[] }] 1057 2 #[133] #[{ accessFlags := 132, nameIndex := 11, descriptorIndex := 12, attributes := #[] }])
  fields := #[{ name := "modCount", type := .int, accessFlags := 132, slot := 0, constantValue := 0 }]
  methods := #[k25m0]
  instanceTypes := #[.int]
  staticTypes := #[]
  resolved := Array.replicate 218 none
  statics := none }

def pool26 : Array CpInfo := pool [(1, .class_ 2), (0, u "java/lang/Cloneable"), (0, .class_ 4), (0, u "java/lang/Object")] 2

/-- java/lang/Cloneable -/
def k26 : Class := { plain "java/lang/Cloneable" (some 0) with
  accessFlags := 1537
  interfaces := #[]
  cf := some (fileOf pool26 1 #[] #[] 1537 3 #[] #[])
  fields := #[]
  methods := #[]
  instanceTypes := #[]
  staticTypes := #[]
  resolved := Array.replicate 7 none
  statics := none }

def pool27 : Array CpInfo := pool [(1, .methodref 2 3), (0, .class_ 4), (0, .nameAndType 5 6), (0, u "java/util/AbstractList"), (0, u "<init>"), (0, u "()V"), (0, .class_ 8), (0, u "java/lang/Object"), (0, .fieldref 10 11), (0, .class_ 12), (0, .nameAndType 13 14), (0, u "java/util/ArrayList"), (0, u "elementData"), (0, u "[Ljava/lang/Object;"), (2, u "EMPTY_ELEMENTDATA"), (21, .fieldref 10 40), (0, .nameAndType 41 14), (0, u "DEFAULTCAPACITY_EMPTY_ELEMENTDATA"), (4, u "toArray"), (0, u "()[Ljava/lang/Object;"), (0, .fieldref 10 49), (0, .nameAndType 50 51), (0, u "size"), (0, u "I"), (6, .class_ 60), (1, u "java/util/Arrays"), (0, u "copyOf"), (1, .fieldref 10 64), (0, .nameAndType 65 51), (0, u "modCount"), (0, .methodref 58 67), (0, .nameAndType 61 68), (0, u "([Ljava/lang/Object;I)[Ljava/lang/Object;"), (0, .methodref 10 70), (0, .nameAndType 71 72), (0, u "grow"), (0, u "(I)[Ljava/lang/Object;"), (6, .methodref 80 81), (0, .class_ 82), (0, .nameAndType 83 84), (0, u "java/lang/Math"), (0, u "max"), (0, u "(II)I"), (11, u "(Ljava/lang/Object;)Z"), (32, .methodref 10 130), (0, .nameAndType 71 47), (0, .methodref 10 132), (0, .nameAndType 133 134), (0, u "add"), (0, u "(Ljava/lang/Object;[Ljava/lang/Object;I)V"), (13, .class_ 149), (0, u "java/util/List"), (23, u "()Z"), (88, .class_ 263), (0, u "java/util/ArrayList$ListItr"), (3, .class_ 268), (0, u "java/util/ArrayList$Itr"), (7, .class_ 277), (0, u "java/util/ArrayList$SubList"), (12, .class_ 291), (0, u "java/util/ArrayList$ArrayListSpliterator"), (37, .class_ 330), (0, u "java/util/RandomAccess"), (0, .class_ 332), (0, u "java/lang/Cloneable"), (0, .class_ 334), (0, u "java/io/Serializable"), (0, u "serialVersionUID"), (0, u "J"), (3, u "DEFAULT_CAPACITY"), (22, u "isEmpty"), (136, .class_ 501), (0, u "java/util/ArrayList$SubList$2"), (0, .class_ 503), (0, u "java/util/ArrayList$SubList$1")] 5

def k27c0 : Code := { maxStack := 2, maxLocals := 1, code := jdk_38_method_2_code, exceptionTable := #[], attributes := #[] }
def k27m0 : Method := { name := "<init>", desc := "()V", sig := { parameters := [], returnType := none }, accessFlags := 1, code := some k27c0 }
def k27c1 : Code := { maxStack := 4, maxLocals := 4, code := jdk_38_method_6_code, exceptionTable := #[], attributes := #[] }
def k27m1 : Method := { name := "grow", desc := "(I)[Ljava/lang/Object;", sig := { parameters := [.int], returnType := some (.array (.object "java/lang/Object")) }, accessFlags := 2, code := some k27c1 }
def k27c2 : Code := { maxStack := 3, maxLocals := 1, code := jdk_38_method_7_code, exceptionTable := #[], attributes := #[] }
def k27m2 : Method := { name := "grow", desc := "()[Ljava/lang/Object;", sig := { parameters := [], returnType := some (.array (.object "java/lang/Object")) }, accessFlags := 2, code := some k27c2 }
def k27c3 : Code := { maxStack := 1, maxLocals := 1, code := jdk_38_method_9_code, exceptionTable := #[], attributes := #[] }
def k27m3 : Method := { name := "isEmpty", desc := "()Z", sig := { parameters := [], returnType := some .boolean }, accessFlags := 1, code := some k27c3 }
def k27c4 : Code := { maxStack := 2, maxLocals := 1, code := jdk_38_method_16_code, exceptionTable := #[], attributes := #[] }
def k27m4 : Method := { name := "toArray", desc := "()[Ljava/lang/Object;", sig := { parameters := [], returnType := some (.array (.object "java/lang/Object")) }, accessFlags := 1, code := some k27c4 }
def k27c5 : Code := { maxStack := 3, maxLocals := 4, code := jdk_38_method_24_code, exceptionTable := #[], attributes := #[] }
def k27m5 : Method := { name := "add", desc := "(Ljava/lang/Object;[Ljava/lang/Object;I)V", sig := { parameters := [(.object "java/lang/Object"), (.array (.object "java/lang/Object")), .int], returnType := none }, accessFlags := 2, code := some k27c5 }
def k27c6 : Code := { maxStack := 4, maxLocals := 2, code := jdk_38_method_25_code, exceptionTable := #[], attributes := #[] }
def k27m6 : Method := { name := "add", desc := "(Ljava/lang/Object;)Z", sig := { parameters := [(.object "java/lang/Object")], returnType := some .boolean }, accessFlags := 1, code := some k27c6 }
/-- java/util/ArrayList -/
def k27 : Class := { plain "java/util/ArrayList" (some 25) with
  accessFlags := 33
  interfaces := #[14, 19, 26, 2]
  cf := some (fileOf pool27 10 #[.nestMembers #[290, 276, 500, 502, 262, 267]] #[{ accessFlags := 1, nameIndex := 5, descriptorIndex := 6, attributes := #[] }, { accessFlags := 2, nameIndex := 71, descriptorIndex := 72, attributes := #[] }, { accessFlags := 2, nameIndex := 71, descriptorIndex := 47, attributes := #[] }, { accessFlags := 1, nameIndex := 363, descriptorIndex := 173, attributes := #[] }, { accessFlags := 1, nameIndex := 46, descriptorIndex := 47, attributes := #[] }, { accessFlags := 2, nameIndex := 133, descriptorIndex := 134, attributes := #[] }, { accessFlags := 1, nameIndex := 133, descriptorIndex := 96, attributes := #[] }] 33 2 #[148, 329, 331, 333] #[{ accessFlags := 26, nameIndex := 335, descriptorIndex := 336, attributes := #[] }, { accessFlags := 26, nameIndex := 340, descriptorIndex := 51, attributes := #[] }, { accessFlags := 26, nameIndex := 17, descriptorIndex := 14, attributes := #[] }, { accessFlags := 26, nameIndex := 41, descriptorIndex := 14, attributes := #[] }, { accessFlags := 128, nameIndex := 13, descriptorIndex := 14, attributes := #[] }, { accessFlags := 2, nameIndex := 50, descriptorIndex := 51, attributes := #[] }])
  fields := #[{ name := "serialVersionUID", type := .long, accessFlags := 26, slot := 0, constantValue := 0 }, { name := "DEFAULT_CAPACITY", type := .int, accessFlags := 26, slot := 1, constantValue := 0 }, { name := "EMPTY_ELEMENTDATA", type := (.array (.object "java/lang/Object")), accessFlags := 26, slot := 2, constantValue := 0 }, { name := "DEFAULTCAPACITY_EMPTY_ELEMENTDATA", type := (.array (.object "java/lang/Object")), accessFlags := 26, slot := 3, constantValue := 0 }, { name := "elementData", type := (.array (.object "java/lang/Object")), accessFlags := 128, slot := 1, constantValue := 0 }, { name := "size", type := .int, accessFlags := 2, slot := 2, constantValue := 0 }]
  methods := #[k27m0, k27m1, k27m2, k27m3, k27m4, k27m5, k27m6]
  instanceTypes := #[.int, (.array (.object "java/lang/Object")), .int]
  staticTypes := #[.long, .int, (.array (.object "java/lang/Object")), (.array (.object "java/lang/Object"))]
  resolved := Array.replicate 509 none
  statics := some 2 }

def pool28 : Array CpInfo := pool [(1, .class_ 2), (0, u "java/lang/Math"), (1, .class_ 6), (1, u "java/lang/Object"), (0, u "<init>"), (0, u "()V"), (89, .class_ 100), (1, u "java/lang/Math$RandomNumberGeneratorHolder"), (71, u "negativeZeroFloatBits"), (0, u "J"), (2, u "negativeZeroDoubleBits"), (21, u "max"), (2, u "min"), (43, u "$assertionsDisabled"), (0, u "Z"), (88, u "(II)I"), (2, u "twoToTheDoubleScaleDown"), (0, u "D"), (4, u "twoToTheDoubleScaleUp"), (9, u "E"), (3, u "PI"), (2, u "TAU"), (2, u "DEGREES_TO_RADIANS"), (0, u "RADIANS_TO_DEGREES")] 94

def k28m0 : Method := { name := "<init>", desc := "()V", sig := { parameters := [], returnType := none }, accessFlags := 2, code := none }
def k28c1 : Code := { maxStack := 2, maxLocals := 2, code := jdk_29_method_65_code, exceptionTable := #[], attributes := #[] }
def k28m1 : Method := { name := "max", desc := "(II)I", sig := { parameters := [.int, .int], returnType := some .int }, accessFlags := 9, code := some k28c1 }
def k28c2 : Code := { maxStack := 2, maxLocals := 2, code := jdk_29_method_69_code, exceptionTable := #[], attributes := #[] }
def k28m2 : Method := { name := "min", desc := "(II)I", sig := { parameters := [.int, .int], returnType := some .int }, accessFlags := 9, code := some k28c2 }
/-- java/lang/Math -/
def k28 : Class := { plain "java/lang/Math" (some 0) with
  accessFlags := 49
  interfaces := #[]
  cf := some (fileOf pool28 1 #[.nestMembers #[98]] #[{ accessFlags := 2, nameIndex := 7, descriptorIndex := 8, attributes := #[] }, { accessFlags := 9, nameIndex := 198, descriptorIndex := 335, attributes := #[] }, { accessFlags := 9, nameIndex := 201, descriptorIndex := 335, attributes := #[] }] 49 4 #[] #[{ accessFlags := 25, nameIndex := 354, descriptorIndex := 339, attributes := #[] }, { accessFlags := 25, nameIndex := 358, descriptorIndex := 339, attributes := #[] }, { accessFlags := 25, nameIndex := 361, descriptorIndex := 339, attributes := #[] }, { accessFlags := 26, nameIndex := 364, descriptorIndex := 339, attributes := #[] }, { accessFlags := 26, nameIndex := 365, descriptorIndex := 339, attributes := #[] }, { accessFlags := 26, nameIndex := 172, descriptorIndex := 173, attributes := #[] }, { accessFlags := 26, nameIndex := 176, descriptorIndex := 173, attributes := #[] }, { accessFlags := 8, nameIndex := 344, descriptorIndex := 339, attributes := #[] }, { accessFlags := 8, nameIndex := 338, descriptorIndex := 339, attributes := #[] }, { accessFlags := 4120, nameIndex := 245, descriptorIndex := 246, attributes := #[] }])
  fields := #[{ name := "E", type := .double, accessFlags := 25, slot := 0, constantValue := 0 }, { name := "PI", type := .double, accessFlags := 25, slot := 1, constantValue := 0 }, { name := "TAU", type := .double, accessFlags := 25, slot := 2, constantValue := 0 }, { name := "DEGREES_TO_RADIANS", type := .double, accessFlags := 26, slot := 3, constantValue := 0 }, { name := "RADIANS_TO_DEGREES", type := .double, accessFlags := 26, slot := 4, constantValue := 0 }, { name := "negativeZeroFloatBits", type := .long, accessFlags := 26, slot := 5, constantValue := 0 }, { name := "negativeZeroDoubleBits", type := .long, accessFlags := 26, slot := 6, constantValue := 0 }, { name := "twoToTheDoubleScaleUp", type := .double, accessFlags := 8, slot := 7, constantValue := 0 }, { name := "twoToTheDoubleScaleDown", type := .double, accessFlags := 8, slot := 8, constantValue := 0 }, { name := "$assertionsDisabled", type := .boolean, accessFlags := 4120, slot := 9, constantValue := 0 }]
  methods := #[k28m0, k28m1, k28m2]
  instanceTypes := #[]
  staticTypes := #[.double, .double, .double, .double, .double, .long, .long, .double, .double, .boolean]
  resolved := Array.replicate 460 none
  statics := none }

def pool29 : Array CpInfo := pool [(2, .class_ 4), (1, u "java/lang/Object"), (0, u "<init>"), (0, u "()V"), (7, .class_ 16), (1, u "java/util/Arrays"), (57, .class_ 76), (1, u "java/util/Arrays$NaturalOrder"), (9, .methodref 2 87), (0, .nameAndType 88 89), (0, u "getClass"), (0, u "()Ljava/lang/Class;"), (20, .class_ 111), (0, u "[Ljava/lang/Object;"), (1, .class_ 115), (1, u "java/util/Arrays$LegacyMergeSort"), (1, u "Z"), (32, .methodref 151 152), (0, .class_ 153), (0, .nameAndType 154 155), (0, u "java/lang/System"), (0, u "arraycopy"), (0, u "(Ljava/lang/Object;ILjava/lang/Object;II)V"), (144, .methodref 14 301), (0, .nameAndType 302 303), (0, u "copyOf"), (0, u "([Ljava/lang/Object;ILjava/lang/Class;)[Ljava/lang/Object;"), (0, .methodref 305 306), (0, .class_ 307), (0, .nameAndType 308 309), (0, u "java/lang/Math"), (0, u "min"), (0, u "(II)I"), (65, .class_ 376), (0, u "java/util/Arrays$ArrayList"), (68, u "$assertionsDisabled"), (269, u "MIN_ARRAY_SORT_GRAN"), (0, u "I"), (2, u "INSERTIONSORT_THRESHOLD"), (140, u "([Ljava/lang/Object;I)[Ljava/lang/Object;"), (114, .class_ 976), (0, u "java/util/Arrays$ArrayItr")] 52

def k29m0 : Method := { name := "<init>", desc := "()V", sig := { parameters := [], returnType := none }, accessFlags := 2, code := none }
def k29c1 : Code := { maxStack := 3, maxLocals := 2, code := jdk_65_method_119_code, exceptionTable := #[], attributes := #[] }
def k29m1 : Method := { name := "copyOf", desc := "([Ljava/lang/Object;I)[Ljava/lang/Object;", sig := { parameters := [(.array (.object "java/lang/Object")), .int], returnType := some (.array (.object "java/lang/Object")) }, accessFlags := 9, code := some k29c1 }
def k29c2 : Code := { maxStack := 6, maxLocals := 4, code := jdk_65_method_120_code, exceptionTable := #[], attributes := #[] }
def k29m2 : Method := { name := "copyOf", desc := "([Ljava/lang/Object;ILjava/lang/Class;)[Ljava/lang/Object;", sig := { parameters := [(.array (.object "java/lang/Object")), .int, (.object "java/lang/Class")], returnType := some (.array (.object "java/lang/Object")) }, accessFlags := 9, code := some k29c2 }
/-- java/util/Arrays -/
def k29 : Class := { plain "java/util/Arrays" (some 0) with
  accessFlags := 49
  interfaces := #[]
  cf := some (fileOf pool29 14 #[.nestMembers #[975, 375, 113, 74]] #[{ accessFlags := 2, nameIndex := 5, descriptorIndex := 6, attributes := #[] }, { accessFlags := 9, nameIndex := 302, descriptorIndex := 860, attributes := #[] }, { accessFlags := 9, nameIndex := 302, descriptorIndex := 303, attributes := #[] }] 49 2 #[] #[{ accessFlags := 26, nameIndex := 715, descriptorIndex := 716, attributes := #[] }, { accessFlags := 26, nameIndex := 719, descriptorIndex := 716, attributes := #[] }, { accessFlags := 4120, nameIndex := 445, descriptorIndex := 117, attributes := #[] }])
  fields := #[{ name := "MIN_ARRAY_SORT_GRAN", type := .int, accessFlags := 26, slot := 0, constantValue := 0 }, { name := "INSERTIONSORT_THRESHOLD", type := .int, accessFlags := 26, slot := 1, constantValue := 0 }, { name := "$assertionsDisabled", type := .boolean, accessFlags := 4120, slot := 2, constantValue := 0 }]
  methods := #[k29m0, k29m1, k29m2]
  instanceTypes := #[]
  staticTypes := #[.int, .int, .boolean]
  resolved := Array.replicate 1029 none
  statics := none }

def pool30 : Array CpInfo := pool [(2, .class_ 4), (1, u "java/lang/Object"), (0, u "<init>"), (0, u "()V"), (1, .class_ 10), (1, u "java/lang/System"), (0, u "allowSecurityManager"), (0, u "I"), (16, u "cons"), (0, u "Ljava/io/Console;"), (77, .class_ 110), (1, u "java/lang/System$CallersHolder"), (43, u "initialErrStream"), (0, u "Ljava/io/PrintStream;"), (19, u "security"), (0, u "Ljava/lang/SecurityManager;"), (31, .class_ 209), (0, u "java/lang/System$1"), (7, u "props"), (0, u "Ljava/util/Properties;"), (2, u "lineSeparator"), (0, u "Ljava/lang/String;"), (96, .class_ 321), (1, u "java/lang/System$LoggerFinder"), (5, .class_ 328), (0, u "java/lang/System$Logger"), (67, u "err"), (2, u "out"), (91, u "notSupportedJnuEncoding"), (15, u "in"), (17, u "initialIn"), (0, u "Ljava/io/InputStream;"), (35, u "bootLayer"), (0, u "Ljava/lang/ModuleLayer;"), (99, .class_ 664), (0, u "java/lang/System$2"), (9, u "NEVER"), (2, u "MAYBE"), (49, u "arraycopy"), (0, u "(Ljava/lang/Object;ILjava/lang/Object;II)V"), (72, .class_ 802), (0, u "java/lang/System$Logger$Level")] 31

def k30m0 : Method := { name := "<init>", desc := "()V", sig := { parameters := [], returnType := none }, accessFlags := 2, code := none }
def k30m1 : Method := { name := "arraycopy", desc := "(Ljava/lang/Object;ILjava/lang/Object;II)V", sig := { parameters := [(.object "java/lang/Object"), .int, (.object "java/lang/Object"), .int, .int], returnType := none }, accessFlags := 265, code := none }
/-- java/lang/System -/
def k30 : Class := { plain "java/lang/System" (some 0) with
  accessFlags := 49
  interfaces := #[]
  cf := some (fileOf pool30 8 #[.nestMembers #[319, 327, 801, 108, 663, 208]] #[{ accessFlags := 2, nameIndex := 5, descriptorIndex := 6, attributes := #[] }, { accessFlags := 265, nameIndex := 727, descriptorIndex := 728, attributes := #[] }] 49 2 #[] #[{ accessFlags := 25, nameIndex := 507, descriptorIndex := 526, attributes := #[] }, { accessFlags := 25, nameIndex := 399, descriptorIndex := 155, attributes := #[] }, { accessFlags := 25, nameIndex := 396, descriptorIndex := 155, attributes := #[] }, { accessFlags := 10, nameIndex := 525, descriptorIndex := 526, attributes := #[] }, { accessFlags := 26, nameIndex := 674, descriptorIndex := 12, attributes := #[] }, { accessFlags := 26, nameIndex := 677, descriptorIndex := 12, attributes := #[] }, { accessFlags := 10, nameIndex := 11, descriptorIndex := 12, attributes := #[] }, { accessFlags := 74, nameIndex := 175, descriptorIndex := 176, attributes := #[] }, { accessFlags := 10, nameIndex := 491, descriptorIndex := 222, attributes := #[] }, { accessFlags := 74, nameIndex := 29, descriptorIndex := 30, attributes := #[] }, { accessFlags := 74, nameIndex := 154, descriptorIndex := 155, attributes := #[] }, { accessFlags := 10, nameIndex := 217, descriptorIndex := 218, attributes := #[] }, { accessFlags := 10, nameIndex := 221, descriptorIndex := 222, attributes := #[] }, { accessFlags := 8, nameIndex := 562, descriptorIndex := 563, attributes := #[] }])
  fields := #[{ name := "in", type := (.object "java/io/InputStream"), accessFlags := 25, slot := 0, constantValue := 0 }, { name := "out", type := (.object "java/io/PrintStream"), accessFlags := 25, slot := 1, constantValue := 0 }, { name := "err", type := (.object "java/io/PrintStream"), accessFlags := 25, slot := 2, constantValue := 0 }, { name := "initialIn", type := (.object "java/io/InputStream"), accessFlags := 10, slot := 3, constantValue := 0 }, { name := "NEVER", type := .int, accessFlags := 26, slot := 4, constantValue := 0 }, { name := "MAYBE", type := .int, accessFlags := 26, slot := 5, constantValue := 0 }, { name := "allowSecurityManager", type := .int, accessFlags := 10, slot := 6, constantValue := 0 }, { name := "security", type := (.object "java/lang/SecurityManager"), accessFlags := 74, slot := 7, constantValue := 0 }, { name := "notSupportedJnuEncoding", type := (.object "java/lang/String"), accessFlags := 10, slot := 8, constantValue := 0 }, { name := "cons", type := (.object "java/io/Console"), accessFlags := 74, slot := 9, constantValue := 0 }, { name := "initialErrStream", type := (.object "java/io/PrintStream"), accessFlags := 74, slot := 10, constantValue := 0 }, { name := "props", type := (.object "java/util/Properties"), accessFlags := 10, slot := 11, constantValue := 0 }, { name := "lineSeparator", type := (.object "java/lang/String"), accessFlags := 10, slot := 12, constantValue := 0 }, { name := "bootLayer", type := (.object "java/lang/ModuleLayer"), accessFlags := 8, slot := 13, constantValue := 0 }]
  methods := #[k30m0, k30m1]
  instanceTypes := #[]
  staticTypes := #[(.object "java/io/InputStream"), (.object "java/io/PrintStream"), (.object "java/io/PrintStream"), (.object "java/io/InputStream"), .int, .int, .int, (.object "java/lang/SecurityManager"), (.object "java/lang/String"), (.object "java/io/Console"), (.object "java/io/PrintStream"), (.object "java/util/Properties"), (.object "java/lang/String"), (.object "java/lang/ModuleLayer")]
  resolved := Array.replicate 834 none
  statics := none }

def pool31 : Array CpInfo := pool [(2, .class_ 4), (1, u "java/lang/Object"), (0, u "<init>"), (0, u "()V"), (35, .class_ 44), (1, u "java/util/Objects"), (0, u "requireNonNull"), (0, u "(Ljava/lang/Object;)Ljava/lang/Object;")] 137

def k31m0 : Method := { name := "<init>", desc := "()V", sig := { parameters := [], returnType := none }, accessFlags := 2, code := none }
def k31c1 : Code := { maxStack := 2, maxLocals := 1, code := jdk_31_method_10_code, exceptionTable := #[], attributes := #[] }
def k31m1 : Method := { name := "requireNonNull", desc := "(Ljava/lang/Object;)Ljava/lang/Object;", sig := { parameters := [(.object "java/lang/Object")], returnType := some (.object "java/lang/Object") }, accessFlags := 9, code := some k31c1 }
/-- java/util/Objects -/
def k31 : Class := { plain "java/util/Objects" (some 0) with
  accessFlags := 49
  interfaces := #[]
  cf := some (fileOf pool31 42 #[] #[{ accessFlags := 2, nameIndex := 5, descriptorIndex := 6, attributes := #[] }, { accessFlags := 9, nameIndex := 45, descriptorIndex := 46, attributes := #[] }] 49 2 #[] #[])
  fields := #[]
  methods := #[k31m0, k31m1]
  instanceTypes := #[]
  staticTypes := #[]
  resolved := Array.replicate 184 none
  statics := none }

def pool32 : Array CpInfo := pool [(2, .class_ 4), (1, u "java/lang/Object"), (0, u "<init>"), (0, u "()V"), (17, .class_ 26), (1, u "jdk/internal/util/Preconditions"), (28, .class_ 56), (0, u "jdk/internal/util/Preconditions$4"), (57, .class_ 115), (0, u "jdk/internal/util/Preconditions$1"), (7, u "SIOOBE_FORMATTER"), (0, u "Ljava/util/function/BiFunction;"), (0, .class_ 126), (0, u "jdk/internal/util/Preconditions$2"), (3, u "AIOOBE_FORMATTER"), (0, .class_ 132), (0, u "jdk/internal/util/Preconditions$3"), (3, u "IOOBE_FORMATTER")] 57

def k32m0 : Method := { name := "<init>", desc := "()V", sig := { parameters := [], returnType := none }, accessFlags := 1, code := none }
/-- jdk/internal/util/Preconditions -/
def k32 : Class := { plain "jdk/internal/util/Preconditions" (some 0) with
  accessFlags := 33
  interfaces := #[]
  cf := some (fileOf pool32 24 #[.nestMembers #[55, 131, 125, 114]] #[{ accessFlags := 1, nameIndex := 5, descriptorIndex := 6, attributes := #[] }] 33 2 #[] #[{ accessFlags := 25, nameIndex := 123, descriptorIndex := 124, attributes := #[] }, { accessFlags := 25, nameIndex := 130, descriptorIndex := 124, attributes := #[] }, { accessFlags := 25, nameIndex := 136, descriptorIndex := 124, attributes := #[] }])
  fields := #[{ name := "SIOOBE_FORMATTER", type := (.object "java/util/function/BiFunction"), accessFlags := 25, slot := 0, constantValue := 0 }, { name := "AIOOBE_FORMATTER", type := (.object "java/util/function/BiFunction"), accessFlags := 25, slot := 1, constantValue := 0 }, { name := "IOOBE_FORMATTER", type := (.object "java/util/function/BiFunction"), accessFlags := 25, slot := 2, constantValue := 0 }]
  methods := #[k32m0]
  instanceTypes := #[]
  staticTypes := #[(.object "java/util/function/BiFunction"), (.object "java/util/function/BiFunction"), (.object "java/util/function/BiFunction")]
  resolved := Array.replicate 194 none
  statics := some 3 }

def pool33 : Array CpInfo := pool [(9, u "<init>"), (6, .class_ 18), (1, u "java/lang/Object"), (0, u "()V"), (1, .class_ 23), (1, u "jdk/internal/util/ArraysSupport"), (0, u "LOG2_ARRAY_LONG_INDEX_SCALE"), (0, u "I"), (2, u "U"), (0, u "Ljdk/internal/misc/Unsafe;"), (8, u "BIG_ENDIAN"), (0, u "Z"), (8, u "LOG2_BYTE_BIT_SIZE"), (4, u "LOG2_ARRAY_INT_INDEX_SCALE"), (54, u "JLA"), (0, u "Ljdk/internal/access/JavaLangAccess;"), (11, u "LOG2_ARRAY_BOOLEAN_INDEX_SCALE"), (9, u "LOG2_ARRAY_BYTE_INDEX_SCALE"), (5, u "LOG2_ARRAY_CHAR_INDEX_SCALE"), (5, u "LOG2_ARRAY_SHORT_INDEX_SCALE"), (18, u "LOG2_ARRAY_FLOAT_INDEX_SCALE"), (24, u "LOG2_ARRAY_DOUBLE_INDEX_SCALE"), (89, u "T_BOOLEAN"), (2, u "T_CHAR"), (1, u "T_FLOAT"), (1, u "T_DOUBLE"), (1, u "T_BYTE"), (1, u "T_SHORT"), (1, u "T_INT"), (1, u "T_LONG"), (1, u "SOFT_MAX_ARRAY_LENGTH")] 83

def k33m0 : Method := { name := "<init>", desc := "()V", sig := { parameters := [], returnType := none }, accessFlags := 2, code := none }
/-- jdk/internal/util/ArraysSupport -/
def k33 : Class := { plain "jdk/internal/util/ArraysSupport" (some 0) with
  accessFlags := 33
  interfaces := #[]
  cf := some (fileOf pool33 21 #[] #[{ accessFlags := 2, nameIndex := 9, descriptorIndex := 19, attributes := #[] }] 33 16 #[] #[{ accessFlags := 24, nameIndex := 28, descriptorIndex := 29, attributes := #[] }, { accessFlags := 26, nameIndex := 38, descriptorIndex := 39, attributes := #[] }, { accessFlags := 25, nameIndex := 121, descriptorIndex := 25, attributes := #[] }, { accessFlags := 25, nameIndex := 131, descriptorIndex := 25, attributes := #[] }, { accessFlags := 25, nameIndex := 137, descriptorIndex := 25, attributes := #[] }, { accessFlags := 25, nameIndex := 143, descriptorIndex := 25, attributes := #[] }, { accessFlags := 25, nameIndex := 53, descriptorIndex := 25, attributes := #[] }, { accessFlags := 25, nameIndex := 24, descriptorIndex := 25, attributes := #[] }, { accessFlags := 25, nameIndex := 162, descriptorIndex := 25, attributes := #[] }, { accessFlags := 25, nameIndex := 187, descriptorIndex := 25, attributes := #[] }, { accessFlags := 26, nameIndex := 48, descriptorIndex := 25, attributes := #[] }, { accessFlags := 25, nameIndex := 277, descriptorIndex := 25, attributes := #[] }, { accessFlags := 25, nameIndex := 280, descriptorIndex := 25, attributes := #[] }, { accessFlags := 25, nameIndex := 282, descriptorIndex := 25, attributes := #[] }, { accessFlags := 25, nameIndex := 284, descriptorIndex := 25, attributes := #[] }, { accessFlags := 25, nameIndex := 286, descriptorIndex := 25, attributes := #[] }, { accessFlags := 25, nameIndex := 288, descriptorIndex := 25, attributes := #[] }, { accessFlags := 25, nameIndex := 290, descriptorIndex := 25, attributes := #[] }, { accessFlags := 25, nameIndex := 292, descriptorIndex := 25, attributes := #[] }, { accessFlags := 26, nameIndex := 108, descriptorIndex := 109, attributes := #[] }, { accessFlags := 25, nameIndex := 294, descriptorIndex := 25, attributes := #[] }])
  fields := #[{ name := "U", type := (.object "jdk/internal/misc/Unsafe"), accessFlags := 24, slot := 0, constantValue := 0 }, { name := "BIG_ENDIAN", type := .boolean, accessFlags := 26, slot := 1, constantValue := 0 }, { name := "LOG2_ARRAY_BOOLEAN_INDEX_SCALE", type := .int, accessFlags := 25, slot := 2, constantValue := 0 }, { name := "LOG2_ARRAY_BYTE_INDEX_SCALE", type := .int, accessFlags := 25, slot := 3, constantValue := 0 }, { name := "LOG2_ARRAY_CHAR_INDEX_SCALE", type := .int, accessFlags := 25, slot := 4, constantValue := 0 }, { name := "LOG2_ARRAY_SHORT_INDEX_SCALE", type := .int, accessFlags := 25, slot := 5, constantValue := 0 }, { name := "LOG2_ARRAY_INT_INDEX_SCALE", type := .int, accessFlags := 25, slot := 6, constantValue := 0 }, { name := "LOG2_ARRAY_LONG_INDEX_SCALE", type := .int, accessFlags := 25, slot := 7, constantValue := 0 }, { name := "LOG2_ARRAY_FLOAT_INDEX_SCALE", type := .int, accessFlags := 25, slot := 8, constantValue := 0 }, { name := "LOG2_ARRAY_DOUBLE_INDEX_SCALE", type := .int, accessFlags := 25, slot := 9, constantValue := 0 }, { name := "LOG2_BYTE_BIT_SIZE", type := .int, accessFlags := 26, slot := 10, constantValue := 0 }, { name := "T_BOOLEAN", type := .int, accessFlags := 25, slot := 11, constantValue := 0 }, { name := "T_CHAR", type := .int, accessFlags := 25, slot := 12, constantValue := 0 }, { name := "T_FLOAT", type := .int, accessFlags := 25, slot := 13, constantValue := 0 }, { name := "T_DOUBLE", type := .int, accessFlags := 25, slot := 14, constantValue := 0 }, { name := "T_BYTE", type := .int, accessFlags := 25, slot := 15, constantValue := 0 }, { name := "T_SHORT", type := .int, accessFlags := 25, slot := 16, constantValue := 0 }, { name := "T_INT", type := .int, accessFlags := 25, slot := 17, constantValue := 0 }, { name := "T_LONG", type := .int, accessFlags := 25, slot := 18, constantValue := 0 }, { name := "JLA", type := (.object "jdk/internal/access/JavaLangAccess"), accessFlags := 26, slot := 19, constantValue := 0 }, { name := "SOFT_MAX_ARRAY_LENGTH", type := .int, accessFlags := 25, slot := 20, constantValue := 0 }]
  methods := #[k33m0]
  instanceTypes := #[]
  staticTypes := #[(.object "jdk/internal/misc/Unsafe"), .boolean, .int, .int, .int, .int, .int, .int, .int, .int, .int, .int, .int, .int, .int, .int, .int, .int, .int, (.object "jdk/internal/access/JavaLangAccess"), .int]
  resolved := Array.replicate 378 none
  statics := none }

def pool34 : Array CpInfo := pool [(1, u "java/lang/Class"), (0, .class_ 1), (0, u "java/lang/Object"), (0, .class_ 3)] 0

/-- java/lang/Class -/
def k34 : Class := { plain "java/lang/Class" (some 0) with
  accessFlags := 49
  interfaces := #[]
  cf := some (fileOf pool34 2 #[] #[] 49 4 #[] #[])
  fields := #[]
  methods := #[]
  instanceTypes := #[]
  staticTypes := #[]
  resolved := Array.replicate 5 none
  statics := none }

/-- the primitive byte -/
def k35 : Class := { plain "byte" none with kind := .primitive 'B', accessFlags := 0x411 }
/-- [B -/
def k36 : Class := { plain "[B" (some 0) with kind := .array 35 .byte, interfaces := #[26, 2], accessFlags := 1041 }

/-- the primitive char -/
def k37 : Class := { plain "char" none with kind := .primitive 'C', accessFlags := 0x411 }
/-- [C -/
def k38 : Class := { plain "[C" (some 0) with kind := .array 37 .char, interfaces := #[26, 2], accessFlags := 1041 }

/-- the primitive int -/
def k39 : Class := { plain "int" none with kind := .primitive 'I', accessFlags := 0x411 }
/-- [I -/
def k40 : Class := { plain "[I" (some 0) with kind := .array 39 .int, interfaces := #[26, 2], accessFlags := 1041 }

/-- [Ljava/lang/Object; -/
def k41 : Class := { plain "[Ljava/lang/Object;" (some 0) with kind := .array 0 (.object "java/lang/Object"), interfaces := #[26, 2], accessFlags := 1041, mirror := some 4 }

def heap : Heap := #[{ cls := 7, slots := #[.long 0, .int 1, .null, .int 0, .null, .int 0, .int 0], vm := .statics 7 },
  { cls := 15, slots := #[.long 0, .int 0, .null, .ref 9, .ref 5, .null, .ref 6, .null, .int 0, .int 1], vm := .statics 15 },
  { cls := 27, slots := #[.long 0, .int 0, .ref 7, .ref 8], vm := .statics 27 },
  { cls := 32, slots := #[.null, .null, .null], vm := .statics 32 },
  { cls := 34, slots := #[], vm := .mirror 41 },
  { cls := 22, slots := #[.ref 10, .int 0], vm := .none },
  { cls := 24, slots := #[.ref 11, .int 0], vm := .none },
  { cls := 41, slots := #[], vm := .none },
  { cls := 41, slots := #[], vm := .none },
  { cls := 0, slots := #[], vm := .none },
  { cls := 41, slots := #[], vm := .none },
  { cls := 41, slots := #[], vm := .none }]
def classes : Array Class := #[k0, k1, k2, k3, k4, k5, k6, k7, k8, k9, k10, k11, k12, k13, k14, k15, k16, k17, k18, k19, k20, k21, k22, k23, k24, k25, k26, k27, k28, k29, k30, k31, k32, k33, k34, k35, k36, k37, k38, k39, k40, k41]
def interned : List (Array UInt16 × Addr) := []
def slotsUsed : Nat := 28
def theMethod : MethodId := ⟨1, 1⟩
def args0 : Array Value := #[.int 5, .int 1, .int 65, .int 15]
def aboutOver (below : List Frame) : State where
  vm := { classes := classes, interned := interned.toArray }
  heap := heap
  slotsUsed := slotsUsed
  threads := #[{ frames := .invoking theMethod args0 :: below }]
def below0 : List Frame := [.native { method := ⟨0, 0⟩, args := #[] }]
def about1 : State := aboutOver below0
def p0 : Program := .bare "" "" ""
def e0 : Env := launch0.env 0 0 0
theorem w_frames : about1.frames = Frame.invoking theMethod args0 :: below0 := rfl
set_option maxRecDepth 65536 in
theorem w_args : argsFit about1.vm theMethod args0 = true := by decide +kernel
set_option maxRecDepth 65536 in
theorem w_heap : heapFits about1 = true := by decide +kernel
set_option maxRecDepth 65536 in
theorem w_runnable : about1.curStatus? = some .runnable := by decide +kernel
set_option maxRecDepth 65536 in
theorem w_alone : about1.alone = true := by decide +kernel
set_option maxRecDepth 65536 in
theorem w_named : about1.methodNamed? x = some theMethod := by decide +kernel
set_option maxRecDepth 65536 in
theorem w_hears : about1.hears theMethod below0 = true := by decide +kernel
set_option maxRecDepth 65536 in
theorem w_ripe : about1.ripe theMethod args0 below0 = true := by decide +kernel
theorem w_running : about1.status = .running := rfl
set_option maxRecDepth 65536 in
theorem w_room : about1.hasRoom e0.platform room_1 = true :=
  launch0.hasRoom_least _ room_1 (by decide +kernel) (by decide +kernel) (by decide +kernel) (by decide +kernel) (by decide +kernel) (by decide +kernel)
theorem allAtoms_all (ts : List Jvm.Cond) (a : Array Jvm.Value) (st : Jvm.State) : (allAtoms ts).before a st = ts.all (fun c => c.before a st) := by
  induction ts with
  | nil => rfl
  | cons c t ih =>
    show (Jvm.Cond.and c (allAtoms t)).before a st = _
    rw [Jvm.Cond.before_and, ih, List.all_cons]
def words1 : List Jvm.Cond := Jvm.Cond.code x code maxLocals ret :: tables_1
/-- a 'code' word, met by the world's own term for the bytes: nothing is compared byte by byte -/
theorem code_word {y : MethodName} {bytes : ByteArray} {mx : Nat} {rt : Option FieldType} {a : Array Value} {s : State} {m : MethodId} {meth : Method} {c : Code} (h1 : s.methodNamed? y = some m) (h2 : s.vm.method? m = some meth) (h3 : meth.code = some c) (h4 : c.code = bytes)
    (h5 : (c.maxLocals == mx && c.exceptionTable.isEmpty && decide (c.maxStack ≤ mostOperands) && decide (meth.sig.returnType = rt) && !meth.locks && decide (parseMethodDescriptor y.desc = some meth.sig)) = true) : (Jvm.Cond.code y bytes mx rt).before a s = true := by
  simp only [Bool.and_eq_true, beq_iff_eq, Bool.not_eq_true', decide_eq_true_eq] at h5
  obtain ⟨⟨⟨⟨⟨g1, g2⟩, g3⟩, g4⟩, g5⟩, g6⟩ := h5
  simp [Cond.before, Cond.holds, Cond.value, h1, h2, h3, h4, g1, g2, g3, g4, g5, g6]
def isCode : Jvm.Cond → Bool
  | .code _ _ _ _ => true
  | _ => false
theorem all_split {L : List Jvm.Cond} {P : Jvm.Cond → Bool} (h1 : L.all (fun c => isCode c || P c) = true) (h2 : ∀ c ∈ L.filter isCode, P c = true) : L.all P = true := by
  refine List.all_eq_true.mpr fun c hc => ?_
  have h := List.all_eq_true.mp h1 c hc
  rcases Bool.eq_false_or_eq_true (isCode c) with hi | hi
  · exact h2 c (List.mem_filter.mpr ⟨hc, hi⟩)
  · simpa [hi] using h
set_option maxRecDepth 65536 in
theorem w_c0 : (Jvm.Cond.code x code maxLocals ret).before args0 about1 = true := code_word (m := ⟨1, 1⟩) (meth := k1m1) (c := k1c1) (by decide +kernel) rfl rfl rfl (by decide +kernel)
set_option maxRecDepth 65536 in
theorem w_c1 : (Jvm.Cond.code ({ cls := "java/lang/String", name := "<init>", desc := "([C)V" } : Jvm.MethodName) jdk_42_method_3_code (2 : Nat) (Option.none : Option Jvm.ClassFile.FieldType)).before args0 about1 = true := code_word (m := ⟨7, 1⟩) (meth := k7m1) (c := k7c1) (by decide +kernel) rfl rfl rfl (by decide +kernel)
set_option maxRecDepth 65536 in
theorem w_c2 : (Jvm.Cond.code ({ cls := "java/lang/String", name := "<init>", desc := "([CIILjava/lang/Void;)V" } : Jvm.MethodName) jdk_42_method_149_code (6 : Nat) (Option.none : Option Jvm.ClassFile.FieldType)).before args0 about1 = true := code_word (m := ⟨7, 3⟩) (meth := k7m3) (c := k7c3) (by decide +kernel) rfl rfl rfl (by decide +kernel)
set_option maxRecDepth 65536 in
theorem w_c3 : (Jvm.Cond.code ({ cls := "java/lang/Object", name := "<init>", desc := "()V" } : Jvm.MethodName) object_method_1_code (1 : Nat) (Option.none : Option Jvm.ClassFile.FieldType)).before args0 about1 = true := code_word (m := ⟨0, 0⟩) (meth := k0m0) (c := k0c0) (by decide +kernel) rfl rfl rfl (by decide +kernel)
set_option maxRecDepth 65536 in
theorem w_c4 : (Jvm.Cond.code ({ cls := "java/lang/StringUTF16", name := "compress", desc := "([CII)[B" } : Jvm.MethodName) jdk_52_method_16_code (6 : Nat) (Option.some (Jvm.ClassFile.FieldType.array Jvm.ClassFile.FieldType.byte))).before args0 about1 = true := code_word (m := ⟨8, 2⟩) (meth := k8m2) (c := k8c2) (by decide +kernel) rfl rfl rfl (by decide +kernel)
set_option maxRecDepth 65536 in
theorem w_c5 : (Jvm.Cond.code ({ cls := "java/lang/StringUTF16", name := "compress", desc := "([CI[BII)I" } : Jvm.MethodName) jdk_52_method_21_code (7 : Nat) (Option.some Jvm.ClassFile.FieldType.int)).before args0 about1 = true := code_word (m := ⟨8, 3⟩) (meth := k8m3) (c := k8c3) (by decide +kernel) rfl rfl rfl (by decide +kernel)
set_option maxRecDepth 65536 in
theorem w_c6 : (Jvm.Cond.code ({ cls := "java/lang/StringUTF16", name := "coderFromArrayLen", desc := "([BI)B" } : Jvm.MethodName) jdk_52_method_15_code (2 : Nat) (Option.some Jvm.ClassFile.FieldType.byte)).before args0 about1 = true := code_word (m := ⟨8, 1⟩) (meth := k8m1) (c := k8c1) (by decide +kernel) rfl rfl rfl (by decide +kernel)
set_option maxRecDepth 65536 in
theorem w_c7 : (Jvm.Cond.code ({ cls := "java/lang/String", name := "valueOf", desc := "(C)Ljava/lang/String;" } : Jvm.MethodName) jdk_42_method_139_code (1 : Nat) (Option.some (Jvm.ClassFile.FieldType.object "java/lang/String"))).before args0 about1 = true := code_word (m := ⟨7, 2⟩) (meth := k7m2) (c := k7c2) (by decide +kernel) rfl rfl rfl (by decide +kernel)
set_option maxRecDepth 65536 in
theorem w_c8 : (Jvm.Cond.code ({ cls := "java/lang/StringLatin1", name := "canEncode", desc := "(C)Z" } : Jvm.MethodName) jdk_43_method_3_code (1 : Nat) (Option.some Jvm.ClassFile.FieldType.boolean)).before args0 about1 = true := code_word (m := ⟨9, 1⟩) (meth := k9m1) (c := k9c1) (by decide +kernel) rfl rfl rfl (by decide +kernel)
set_option maxRecDepth 65536 in
theorem w_c9 : (Jvm.Cond.code ({ cls := "java/lang/StringLatin1", name := "toBytes", desc := "(C)[B" } : Jvm.MethodName) jdk_43_method_46_code (1 : Nat) (Option.some (Jvm.ClassFile.FieldType.array Jvm.ClassFile.FieldType.byte))).before args0 about1 = true := code_word (m := ⟨9, 2⟩) (meth := k9m2) (c := k9c2) (by decide +kernel) rfl rfl rfl (by decide +kernel)
set_option maxRecDepth 65536 in
theorem w_c10 : (Jvm.Cond.code ({ cls := "java/lang/String", name := "<init>", desc := "([BB)V" } : Jvm.MethodName) jdk_42_method_151_code (3 : Nat) (Option.none : Option Jvm.ClassFile.FieldType)).before args0 about1 = true := code_word (m := ⟨7, 4⟩) (meth := k7m4) (c := k7c4) (by decide +kernel) rfl rfl rfl (by decide +kernel)
set_option maxRecDepth 65536 in
theorem w_c11 : (Jvm.Cond.code ({ cls := "com/example/fetcher/client/Received", name := "error", desc := "(Ljava/lang/String;Ljava/lang/String;Ljava/lang/String;)Lcom/example/fetcher/client/Received;" } : Jvm.MethodName) prog_4_method_3_code (3 : Nat) (Option.some (Jvm.ClassFile.FieldType.object "com/example/fetcher/client/Received"))).before args0 about1 = true := code_word (m := ⟨10, 2⟩) (meth := k10m2) (c := k10c2) (by decide +kernel) rfl rfl rfl (by decide +kernel)
set_option maxRecDepth 65536 in
theorem w_c12 : (Jvm.Cond.code ({ cls := "java/util/List", name := "of", desc := "()Ljava/util/List;" } : Jvm.MethodName) jdk_40_method_36_code (0 : Nat) (Option.some (Jvm.ClassFile.FieldType.object "java/util/List"))).before args0 about1 = true := code_word (m := ⟨14, 0⟩) (meth := k14m0) (c := k14c0) (by decide +kernel) rfl rfl rfl (by decide +kernel)
set_option maxRecDepth 65536 in
theorem w_c13 : (Jvm.Cond.code ({ cls := "java/util/Set", name := "of", desc := "()Ljava/util/Set;" } : Jvm.MethodName) jdk_96_method_17_code (0 : Nat) (Option.some (Jvm.ClassFile.FieldType.object "java/util/Set"))).before args0 about1 = true := code_word (m := ⟨16, 0⟩) (meth := k16m0) (c := k16c0) (by decide +kernel) rfl rfl rfl (by decide +kernel)
set_option maxRecDepth 65536 in
theorem w_c14 : (Jvm.Cond.code ({ cls := "com/example/fetcher/client/Received", name := "<init>", desc := "(Ljava/lang/String;Ljava/lang/String;Ljava/lang/String;Ljava/util/List;Ljava/util/List;Ljava/util/List;Ljava/util/Set;)V" } : Jvm.MethodName) prog_4_method_2_code (8 : Nat) (Option.none : Option Jvm.ClassFile.FieldType)).before args0 about1 = true := code_word (m := ⟨10, 1⟩) (meth := k10m1) (c := k10c1) (by decide +kernel) rfl rfl rfl (by decide +kernel)
set_option maxRecDepth 65536 in
theorem w_c15 : (Jvm.Cond.code ({ cls := "java/util/List", name := "copyOf", desc := "(Ljava/util/Collection;)Ljava/util/List;" } : Jvm.MethodName) jdk_40_method_48_code (1 : Nat) (Option.some (Jvm.ClassFile.FieldType.object "java/util/List"))).before args0 about1 = true := code_word (m := ⟨14, 2⟩) (meth := k14m2) (c := k14c2) (by decide +kernel) rfl rfl rfl (by decide +kernel)
set_option maxRecDepth 65536 in
theorem w_c16 : (Jvm.Cond.code ({ cls := "java/util/ImmutableCollections", name := "listCopy", desc := "(Ljava/util/Collection;)Ljava/util/List;" } : Jvm.MethodName) jdk_56_method_3_code (2 : Nat) (Option.some (Jvm.ClassFile.FieldType.object "java/util/List"))).before args0 about1 = true := code_word (m := ⟨15, 1⟩) (meth := k15m1) (c := k15c1) (by decide +kernel) rfl rfl rfl (by decide +kernel)
set_option maxRecDepth 65536 in
theorem w_c17 : (Jvm.Cond.code ({ cls := "java/util/Set", name := "copyOf", desc := "(Ljava/util/Collection;)Ljava/util/Set;" } : Jvm.MethodName) jdk_96_method_29_code (1 : Nat) (Option.some (Jvm.ClassFile.FieldType.object "java/util/Set"))).before args0 about1 = true := code_word (m := ⟨16, 1⟩) (meth := k16m1) (c := k16c1) (by decide +kernel) rfl rfl rfl (by decide +kernel)
set_option maxRecDepth 65536 in
theorem w_c18 : (Jvm.Cond.code ({ cls := "com/example/fetcher/client/Received", name := "isError", desc := "()Z" } : Jvm.MethodName) prog_4_method_5_code (1 : Nat) (Option.some Jvm.ClassFile.FieldType.boolean)).before args0 about1 = true := code_word (m := ⟨10, 3⟩) (meth := k10m3) (c := k10c3) (by decide +kernel) rfl rfl rfl (by decide +kernel)
set_option maxRecDepth 65536 in
theorem w_c19 : (Jvm.Cond.code ({ cls := "com/example/fetcher/client/Received", name := "errorCode", desc := "()Ljava/lang/String;" } : Jvm.MethodName) prog_4_method_6_code (1 : Nat) (Option.some (Jvm.ClassFile.FieldType.object "java/lang/String"))).before args0 about1 = true := code_word (m := ⟨10, 4⟩) (meth := k10m4) (c := k10c4) (by decide +kernel) rfl rfl rfl (by decide +kernel)
set_option maxRecDepth 65536 in
theorem w_c20 : (Jvm.Cond.code ({ cls := "java/util/ArrayList", name := "<init>", desc := "()V" } : Jvm.MethodName) jdk_38_method_2_code (1 : Nat) (Option.none : Option Jvm.ClassFile.FieldType)).before args0 about1 = true := code_word (m := ⟨27, 0⟩) (meth := k27m0) (c := k27c0) (by decide +kernel) rfl rfl rfl (by decide +kernel)
set_option maxRecDepth 65536 in
theorem w_c21 : (Jvm.Cond.code ({ cls := "java/util/AbstractList", name := "<init>", desc := "()V" } : Jvm.MethodName) jdk_39_method_1_code (1 : Nat) (Option.none : Option Jvm.ClassFile.FieldType)).before args0 about1 = true := code_word (m := ⟨25, 0⟩) (meth := k25m0) (c := k25c0) (by decide +kernel) rfl rfl rfl (by decide +kernel)
set_option maxRecDepth 65536 in
theorem w_c22 : (Jvm.Cond.code ({ cls := "java/util/AbstractCollection", name := "<init>", desc := "()V" } : Jvm.MethodName) jdk_22_method_1_code (1 : Nat) (Option.none : Option Jvm.ClassFile.FieldType)).before args0 about1 = true := code_word (m := ⟨17, 0⟩) (meth := k17m0) (c := k17c0) (by decide +kernel) rfl rfl rfl (by decide +kernel)
set_option maxRecDepth 65536 in
theorem w_c23 : (Jvm.Cond.code ({ cls := "com/example/fetcher/client/Received", name := "returned", desc := "()Ljava/util/List;" } : Jvm.MethodName) prog_4_method_9_code (1 : Nat) (Option.some (Jvm.ClassFile.FieldType.object "java/util/List"))).before args0 about1 = true := code_word (m := ⟨10, 5⟩) (meth := k10m5) (c := k10c5) (by decide +kernel) rfl rfl rfl (by decide +kernel)
set_option maxRecDepth 65536 in
theorem w_c24 : (Jvm.Cond.code ({ cls := "com/example/fetcher/client/Received", name := "told", desc := "()Ljava/util/List;" } : Jvm.MethodName) prog_4_method_10_code (1 : Nat) (Option.some (Jvm.ClassFile.FieldType.object "java/util/List"))).before args0 about1 = true := code_word (m := ⟨10, 6⟩) (meth := k10m6) (c := k10c6) (by decide +kernel) rfl rfl rfl (by decide +kernel)
set_option maxRecDepth 65536 in
theorem w_c25 : (Jvm.Cond.code ({ cls := "com/example/fetcher/client/Received", name := "versions", desc := "()Ljava/util/Set;" } : Jvm.MethodName) prog_4_method_11_code (1 : Nat) (Option.some (Jvm.ClassFile.FieldType.object "java/util/Set"))).before args0 about1 = true := code_word (m := ⟨10, 7⟩) (meth := k10m7) (c := k10c7) (by decide +kernel) rfl rfl rfl (by decide +kernel)
set_option maxRecDepth 65536 in
theorem w_c26 : (Jvm.Cond.code ({ cls := "com/example/fetcher/client/Received", name := "<init>", desc := "(Ljava/lang/String;Ljava/util/List;Ljava/util/List;Ljava/util/List;Ljava/util/Set;)V" } : Jvm.MethodName) prog_4_method_1_code (6 : Nat) (Option.none : Option Jvm.ClassFile.FieldType)).before args0 about1 = true := code_word (m := ⟨10, 0⟩) (meth := k10m0) (c := k10c0) (by decide +kernel) rfl rfl rfl (by decide +kernel)
set_option maxRecDepth 65536 in
theorem w_c27 : (Jvm.Cond.code ({ cls := "java/util/ArrayList", name := "isEmpty", desc := "()Z" } : Jvm.MethodName) jdk_38_method_9_code (1 : Nat) (Option.some Jvm.ClassFile.FieldType.boolean)).before args0 about1 = true := code_word (m := ⟨27, 3⟩) (meth := k27m3) (c := k27c3) (by decide +kernel) rfl rfl rfl (by decide +kernel)
set_option maxRecDepth 65536 in
theorem w_c28 : (Jvm.Cond.code ({ cls := "java/util/ArrayList", name := "add", desc := "(Ljava/lang/Object;)Z" } : Jvm.MethodName) jdk_38_method_25_code (2 : Nat) (Option.some Jvm.ClassFile.FieldType.boolean)).before args0 about1 = true := code_word (m := ⟨27, 6⟩) (meth := k27m6) (c := k27c6) (by decide +kernel) rfl rfl rfl (by decide +kernel)
set_option maxRecDepth 65536 in
theorem w_c29 : (Jvm.Cond.code ({ cls := "java/util/ArrayList", name := "add", desc := "(Ljava/lang/Object;[Ljava/lang/Object;I)V" } : Jvm.MethodName) jdk_38_method_24_code (4 : Nat) (Option.none : Option Jvm.ClassFile.FieldType)).before args0 about1 = true := code_word (m := ⟨27, 5⟩) (meth := k27m5) (c := k27c5) (by decide +kernel) rfl rfl rfl (by decide +kernel)
set_option maxRecDepth 65536 in
theorem w_c30 : (Jvm.Cond.code ({ cls := "java/util/ArrayList", name := "grow", desc := "()[Ljava/lang/Object;" } : Jvm.MethodName) jdk_38_method_7_code (1 : Nat) (Option.some (Jvm.ClassFile.FieldType.array (Jvm.ClassFile.FieldType.object "java/lang/Object")))).before args0 about1 = true := code_word (m := ⟨27, 2⟩) (meth := k27m2) (c := k27c2) (by decide +kernel) rfl rfl rfl (by decide +kernel)
set_option maxRecDepth 65536 in
theorem w_c31 : (Jvm.Cond.code ({ cls := "java/util/ArrayList", name := "grow", desc := "(I)[Ljava/lang/Object;" } : Jvm.MethodName) jdk_38_method_6_code (4 : Nat) (Option.some (Jvm.ClassFile.FieldType.array (Jvm.ClassFile.FieldType.object "java/lang/Object")))).before args0 about1 = true := code_word (m := ⟨27, 1⟩) (meth := k27m1) (c := k27c1) (by decide +kernel) rfl rfl rfl (by decide +kernel)
set_option maxRecDepth 65536 in
theorem w_c32 : (Jvm.Cond.code ({ cls := "java/lang/Math", name := "max", desc := "(II)I" } : Jvm.MethodName) jdk_29_method_65_code (2 : Nat) (Option.some Jvm.ClassFile.FieldType.int)).before args0 about1 = true := code_word (m := ⟨28, 1⟩) (meth := k28m1) (c := k28c1) (by decide +kernel) rfl rfl rfl (by decide +kernel)
set_option maxRecDepth 65536 in
theorem w_c33 : (Jvm.Cond.code ({ cls := "java/util/ArrayList", name := "toArray", desc := "()[Ljava/lang/Object;" } : Jvm.MethodName) jdk_38_method_16_code (1 : Nat) (Option.some (Jvm.ClassFile.FieldType.array (Jvm.ClassFile.FieldType.object "java/lang/Object")))).before args0 about1 = true := code_word (m := ⟨27, 4⟩) (meth := k27m4) (c := k27c4) (by decide +kernel) rfl rfl rfl (by decide +kernel)
set_option maxRecDepth 65536 in
theorem w_c34 : (Jvm.Cond.code ({ cls := "java/util/Arrays", name := "copyOf", desc := "([Ljava/lang/Object;I)[Ljava/lang/Object;" } : Jvm.MethodName) jdk_65_method_119_code (2 : Nat) (Option.some (Jvm.ClassFile.FieldType.array (Jvm.ClassFile.FieldType.object "java/lang/Object")))).before args0 about1 = true := code_word (m := ⟨29, 1⟩) (meth := k29m1) (c := k29c1) (by decide +kernel) rfl rfl rfl (by decide +kernel)
set_option maxRecDepth 65536 in
theorem w_c35 : (Jvm.Cond.code ({ cls := "java/util/Arrays", name := "copyOf", desc := "([Ljava/lang/Object;ILjava/lang/Class;)[Ljava/lang/Object;" } : Jvm.MethodName) jdk_65_method_120_code (4 : Nat) (Option.some (Jvm.ClassFile.FieldType.array (Jvm.ClassFile.FieldType.object "java/lang/Object")))).before args0 about1 = true := code_word (m := ⟨29, 2⟩) (meth := k29m2) (c := k29c2) (by decide +kernel) rfl rfl rfl (by decide +kernel)
set_option maxRecDepth 65536 in
theorem w_c36 : (Jvm.Cond.code ({ cls := "java/lang/Math", name := "min", desc := "(II)I" } : Jvm.MethodName) jdk_29_method_69_code (2 : Nat) (Option.some Jvm.ClassFile.FieldType.int)).before args0 about1 = true := code_word (m := ⟨28, 2⟩) (meth := k28m2) (c := k28c2) (by decide +kernel) rfl rfl rfl (by decide +kernel)
set_option maxRecDepth 65536 in
theorem w_c37 : (Jvm.Cond.code ({ cls := "java/util/List", name := "of", desc := "([Ljava/lang/Object;)Ljava/util/List;" } : Jvm.MethodName) jdk_40_method_47_code (2 : Nat) (Option.some (Jvm.ClassFile.FieldType.object "java/util/List"))).before args0 about1 = true := code_word (m := ⟨14, 1⟩) (meth := k14m1) (c := k14c1) (by decide +kernel) rfl rfl rfl (by decide +kernel)
set_option maxRecDepth 65536 in
theorem w_c38 : (Jvm.Cond.code ({ cls := "java/util/ImmutableCollections$List12", name := "<init>", desc := "(Ljava/lang/Object;)V" } : Jvm.MethodName) jdk_44_method_1_code (2 : Nat) (Option.none : Option Jvm.ClassFile.FieldType)).before args0 about1 = true := code_word (m := ⟨21, 0⟩) (meth := k21m0) (c := k21c0) (by decide +kernel) rfl rfl rfl (by decide +kernel)
set_option maxRecDepth 65536 in
theorem w_c39 : (Jvm.Cond.code ({ cls := "java/util/ImmutableCollections$AbstractImmutableList", name := "<init>", desc := "()V" } : Jvm.MethodName) jdk_46_method_1_code (1 : Nat) (Option.none : Option Jvm.ClassFile.FieldType)).before args0 about1 = true := code_word (m := ⟨20, 0⟩) (meth := k20m0) (c := k20c0) (by decide +kernel) rfl rfl rfl (by decide +kernel)
set_option maxRecDepth 65536 in
theorem w_c40 : (Jvm.Cond.code ({ cls := "java/util/ImmutableCollections$AbstractImmutableCollection", name := "<init>", desc := "()V" } : Jvm.MethodName) jdk_47_method_1_code (1 : Nat) (Option.none : Option Jvm.ClassFile.FieldType)).before args0 about1 = true := code_word (m := ⟨18, 0⟩) (meth := k18m0) (c := k18c0) (by decide +kernel) rfl rfl rfl (by decide +kernel)
set_option maxRecDepth 65536 in
theorem w_c41 : (Jvm.Cond.code ({ cls := "java/util/Objects", name := "requireNonNull", desc := "(Ljava/lang/Object;)Ljava/lang/Object;" } : Jvm.MethodName) jdk_31_method_10_code (1 : Nat) (Option.some (Jvm.ClassFile.FieldType.object "java/lang/Object"))).before args0 about1 = true := code_word (m := ⟨31, 1⟩) (meth := k31m1) (c := k31c1) (by decide +kernel) rfl rfl rfl (by decide +kernel)
def codes1 : List Jvm.Cond := [Jvm.Cond.code x code maxLocals ret, Jvm.Cond.code ({ cls := "java/lang/String", name := "<init>", desc := "([C)V" } : Jvm.MethodName) jdk_42_method_3_code (2 : Nat) (Option.none : Option Jvm.ClassFile.FieldType), Jvm.Cond.code ({ cls := "java/lang/String", name := "<init>", desc := "([CIILjava/lang/Void;)V" } : Jvm.MethodName) jdk_42_method_149_code (6 : Nat) (Option.none : Option Jvm.ClassFile.FieldType), Jvm.Cond.code ({ cls := "java/lang/Object", name := "<init>", desc := "()V" } : Jvm.MethodName) object_method_1_code (1 : Nat) (Option.none : Option Jvm.ClassFile.FieldType), Jvm.Cond.code ({ cls := "java/lang/StringUTF16", name := "compress", desc := "([CII)[B" } : Jvm.MethodName) jdk_52_method_16_code (6 : Nat) (Option.some (Jvm.ClassFile.FieldType.array Jvm.ClassFile.FieldType.byte)), Jvm.Cond.code ({ cls := "java/lang/StringUTF16", name := "compress", desc := "([CI[BII)I" } : Jvm.MethodName) jdk_52_method_21_code (7 : Nat) (Option.some Jvm.ClassFile.FieldType.int), Jvm.Cond.code ({ cls := "java/lang/StringUTF16", name := "coderFromArrayLen", desc := "([BI)B" } : Jvm.MethodName) jdk_52_method_15_code (2 : Nat) (Option.some Jvm.ClassFile.FieldType.byte), Jvm.Cond.code ({ cls := "java/lang/String", name := "valueOf", desc := "(C)Ljava/lang/String;" } : Jvm.MethodName) jdk_42_method_139_code (1 : Nat) (Option.some (Jvm.ClassFile.FieldType.object "java/lang/String")), Jvm.Cond.code ({ cls := "java/lang/StringLatin1", name := "canEncode", desc := "(C)Z" } : Jvm.MethodName) jdk_43_method_3_code (1 : Nat) (Option.some Jvm.ClassFile.FieldType.boolean), Jvm.Cond.code ({ cls := "java/lang/StringLatin1", name := "toBytes", desc := "(C)[B" } : Jvm.MethodName) jdk_43_method_46_code (1 : Nat) (Option.some (Jvm.ClassFile.FieldType.array Jvm.ClassFile.FieldType.byte)), Jvm.Cond.code ({ cls := "java/lang/String", name := "<init>", desc := "([BB)V" } : Jvm.MethodName) jdk_42_method_151_code (3 : Nat) (Option.none : Option Jvm.ClassFile.FieldType), Jvm.Cond.code ({ cls := "com/example/fetcher/client/Received", name := "error", desc := "(Ljava/lang/String;Ljava/lang/String;Ljava/lang/String;)Lcom/example/fetcher/client/Received;" } : Jvm.MethodName) prog_4_method_3_code (3 : Nat) (Option.some (Jvm.ClassFile.FieldType.object "com/example/fetcher/client/Received")), Jvm.Cond.code ({ cls := "java/util/List", name := "of", desc := "()Ljava/util/List;" } : Jvm.MethodName) jdk_40_method_36_code (0 : Nat) (Option.some (Jvm.ClassFile.FieldType.object "java/util/List")), Jvm.Cond.code ({ cls := "java/util/Set", name := "of", desc := "()Ljava/util/Set;" } : Jvm.MethodName) jdk_96_method_17_code (0 : Nat) (Option.some (Jvm.ClassFile.FieldType.object "java/util/Set")), Jvm.Cond.code ({ cls := "com/example/fetcher/client/Received", name := "<init>", desc := "(Ljava/lang/String;Ljava/lang/String;Ljava/lang/String;Ljava/util/List;Ljava/util/List;Ljava/util/List;Ljava/util/Set;)V" } : Jvm.MethodName) prog_4_method_2_code (8 : Nat) (Option.none : Option Jvm.ClassFile.FieldType), Jvm.Cond.code ({ cls := "java/util/List", name := "copyOf", desc := "(Ljava/util/Collection;)Ljava/util/List;" } : Jvm.MethodName) jdk_40_method_48_code (1 : Nat) (Option.some (Jvm.ClassFile.FieldType.object "java/util/List")), Jvm.Cond.code ({ cls := "java/util/ImmutableCollections", name := "listCopy", desc := "(Ljava/util/Collection;)Ljava/util/List;" } : Jvm.MethodName) jdk_56_method_3_code (2 : Nat) (Option.some (Jvm.ClassFile.FieldType.object "java/util/List")), Jvm.Cond.code ({ cls := "java/util/Set", name := "copyOf", desc := "(Ljava/util/Collection;)Ljava/util/Set;" } : Jvm.MethodName) jdk_96_method_29_code (1 : Nat) (Option.some (Jvm.ClassFile.FieldType.object "java/util/Set")), Jvm.Cond.code ({ cls := "com/example/fetcher/client/Received", name := "isError", desc := "()Z" } : Jvm.MethodName) prog_4_method_5_code (1 : Nat) (Option.some Jvm.ClassFile.FieldType.boolean), Jvm.Cond.code ({ cls := "com/example/fetcher/client/Received", name := "errorCode", desc := "()Ljava/lang/String;" } : Jvm.MethodName) prog_4_method_6_code (1 : Nat) (Option.some (Jvm.ClassFile.FieldType.object "java/lang/String")), Jvm.Cond.code ({ cls := "java/util/ArrayList", name := "<init>", desc := "()V" } : Jvm.MethodName) jdk_38_method_2_code (1 : Nat) (Option.none : Option Jvm.ClassFile.FieldType), Jvm.Cond.code ({ cls := "java/util/AbstractList", name := "<init>", desc := "()V" } : Jvm.MethodName) jdk_39_method_1_code (1 : Nat) (Option.none : Option Jvm.ClassFile.FieldType), Jvm.Cond.code ({ cls := "java/util/AbstractCollection", name := "<init>", desc := "()V" } : Jvm.MethodName) jdk_22_method_1_code (1 : Nat) (Option.none : Option Jvm.ClassFile.FieldType), Jvm.Cond.code ({ cls := "com/example/fetcher/client/Received", name := "returned", desc := "()Ljava/util/List;" } : Jvm.MethodName) prog_4_method_9_code (1 : Nat) (Option.some (Jvm.ClassFile.FieldType.object "java/util/List")), Jvm.Cond.code ({ cls := "com/example/fetcher/client/Received", name := "told", desc := "()Ljava/util/List;" } : Jvm.MethodName) prog_4_method_10_code (1 : Nat) (Option.some (Jvm.ClassFile.FieldType.object "java/util/List")), Jvm.Cond.code ({ cls := "com/example/fetcher/client/Received", name := "versions", desc := "()Ljava/util/Set;" } : Jvm.MethodName) prog_4_method_11_code (1 : Nat) (Option.some (Jvm.ClassFile.FieldType.object "java/util/Set")), Jvm.Cond.code ({ cls := "com/example/fetcher/client/Received", name := "<init>", desc := "(Ljava/lang/String;Ljava/util/List;Ljava/util/List;Ljava/util/List;Ljava/util/Set;)V" } : Jvm.MethodName) prog_4_method_1_code (6 : Nat) (Option.none : Option Jvm.ClassFile.FieldType), Jvm.Cond.code ({ cls := "java/util/ArrayList", name := "isEmpty", desc := "()Z" } : Jvm.MethodName) jdk_38_method_9_code (1 : Nat) (Option.some Jvm.ClassFile.FieldType.boolean), Jvm.Cond.code ({ cls := "java/util/ArrayList", name := "add", desc := "(Ljava/lang/Object;)Z" } : Jvm.MethodName) jdk_38_method_25_code (2 : Nat) (Option.some Jvm.ClassFile.FieldType.boolean), Jvm.Cond.code ({ cls := "java/util/ArrayList", name := "add", desc := "(Ljava/lang/Object;[Ljava/lang/Object;I)V" } : Jvm.MethodName) jdk_38_method_24_code (4 : Nat) (Option.none : Option Jvm.ClassFile.FieldType), Jvm.Cond.code ({ cls := "java/util/ArrayList", name := "grow", desc := "()[Ljava/lang/Object;" } : Jvm.MethodName) jdk_38_method_7_code (1 : Nat) (Option.some (Jvm.ClassFile.FieldType.array (Jvm.ClassFile.FieldType.object "java/lang/Object"))), Jvm.Cond.code ({ cls := "java/util/ArrayList", name := "grow", desc := "(I)[Ljava/lang/Object;" } : Jvm.MethodName) jdk_38_method_6_code (4 : Nat) (Option.some (Jvm.ClassFile.FieldType.array (Jvm.ClassFile.FieldType.object "java/lang/Object"))), Jvm.Cond.code ({ cls := "java/lang/Math", name := "max", desc := "(II)I" } : Jvm.MethodName) jdk_29_method_65_code (2 : Nat) (Option.some Jvm.ClassFile.FieldType.int), Jvm.Cond.code ({ cls := "java/util/ArrayList", name := "toArray", desc := "()[Ljava/lang/Object;" } : Jvm.MethodName) jdk_38_method_16_code (1 : Nat) (Option.some (Jvm.ClassFile.FieldType.array (Jvm.ClassFile.FieldType.object "java/lang/Object"))), Jvm.Cond.code ({ cls := "java/util/Arrays", name := "copyOf", desc := "([Ljava/lang/Object;I)[Ljava/lang/Object;" } : Jvm.MethodName) jdk_65_method_119_code (2 : Nat) (Option.some (Jvm.ClassFile.FieldType.array (Jvm.ClassFile.FieldType.object "java/lang/Object"))), Jvm.Cond.code ({ cls := "java/util/Arrays", name := "copyOf", desc := "([Ljava/lang/Object;ILjava/lang/Class;)[Ljava/lang/Object;" } : Jvm.MethodName) jdk_65_method_120_code (4 : Nat) (Option.some (Jvm.ClassFile.FieldType.array (Jvm.ClassFile.FieldType.object "java/lang/Object"))), Jvm.Cond.code ({ cls := "java/lang/Math", name := "min", desc := "(II)I" } : Jvm.MethodName) jdk_29_method_69_code (2 : Nat) (Option.some Jvm.ClassFile.FieldType.int), Jvm.Cond.code ({ cls := "java/util/List", name := "of", desc := "([Ljava/lang/Object;)Ljava/util/List;" } : Jvm.MethodName) jdk_40_method_47_code (2 : Nat) (Option.some (Jvm.ClassFile.FieldType.object "java/util/List")), Jvm.Cond.code ({ cls := "java/util/ImmutableCollections$List12", name := "<init>", desc := "(Ljava/lang/Object;)V" } : Jvm.MethodName) jdk_44_method_1_code (2 : Nat) (Option.none : Option Jvm.ClassFile.FieldType), Jvm.Cond.code ({ cls := "java/util/ImmutableCollections$AbstractImmutableList", name := "<init>", desc := "()V" } : Jvm.MethodName) jdk_46_method_1_code (1 : Nat) (Option.none : Option Jvm.ClassFile.FieldType), Jvm.Cond.code ({ cls := "java/util/ImmutableCollections$AbstractImmutableCollection", name := "<init>", desc := "()V" } : Jvm.MethodName) jdk_47_method_1_code (1 : Nat) (Option.none : Option Jvm.ClassFile.FieldType), Jvm.Cond.code ({ cls := "java/util/Objects", name := "requireNonNull", desc := "(Ljava/lang/Object;)Ljava/lang/Object;" } : Jvm.MethodName) jdk_31_method_10_code (1 : Nat) (Option.some (Jvm.ClassFile.FieldType.object "java/lang/Object"))]
set_option maxRecDepth 65536 in
theorem codes_eq : words1.filter isCode = codes1 := rfl
theorem w_codes : ∀ c ∈ words1.filter isCode, c.before args0 about1 = true := by
  rw [codes_eq]
  intro c hc
  simp only [codes1, List.mem_cons, List.not_mem_nil, or_false] at hc
  rcases hc with rfl | rfl | rfl | rfl | rfl | rfl | rfl | rfl | rfl | rfl | rfl | rfl | rfl | rfl | rfl | rfl | rfl | rfl | rfl | rfl | rfl | rfl | rfl | rfl | rfl | rfl | rfl | rfl | rfl | rfl | rfl | rfl | rfl | rfl | rfl | rfl | rfl | rfl | rfl | rfl | rfl | rfl
  · exact w_c0
  · exact w_c1
  · exact w_c2
  · exact w_c3
  · exact w_c4
  · exact w_c5
  · exact w_c6
  · exact w_c7
  · exact w_c8
  · exact w_c9
  · exact w_c10
  · exact w_c11
  · exact w_c12
  · exact w_c13
  · exact w_c14
  · exact w_c15
  · exact w_c16
  · exact w_c17
  · exact w_c18
  · exact w_c19
  · exact w_c20
  · exact w_c21
  · exact w_c22
  · exact w_c23
  · exact w_c24
  · exact w_c25
  · exact w_c26
  · exact w_c27
  · exact w_c28
  · exact w_c29
  · exact w_c30
  · exact w_c31
  · exact w_c32
  · exact w_c33
  · exact w_c34
  · exact w_c35
  · exact w_c36
  · exact w_c37
  · exact w_c38
  · exact w_c39
  · exact w_c40
  · exact w_c41
set_option maxRecDepth 65536 in
theorem w_t1 : (words1.take 24).all (fun c => isCode c || c.before args0 about1) = true := by decide +kernel
set_option maxRecDepth 65536 in
theorem w_t2 : ((words1.drop 24).take 24).all (fun c => isCode c || c.before args0 about1) = true := by decide +kernel
set_option maxRecDepth 65536 in
theorem w_t3 : (((words1.drop 24).drop 24).take 24).all (fun c => isCode c || c.before args0 about1) = true := by decide +kernel
set_option maxRecDepth 65536 in
theorem w_t4 : ((((words1.drop 24).drop 24).drop 24).take 24).all (fun c => isCode c || c.before args0 about1) = true := by decide +kernel
set_option maxRecDepth 65536 in
theorem w_t5 : (((((words1.drop 24).drop 24).drop 24).drop 24).take 24).all (fun c => isCode c || c.before args0 about1) = true := by decide +kernel
set_option maxRecDepth 65536 in
theorem w_t6 : ((((((words1.drop 24).drop 24).drop 24).drop 24).drop 24).take 24).all (fun c => isCode c || c.before args0 about1) = true := by decide +kernel
set_option maxRecDepth 65536 in
theorem w_t7 : (((((((words1.drop 24).drop 24).drop 24).drop 24).drop 24).drop 24).take 24).all (fun c => isCode c || c.before args0 about1) = true := by decide +kernel
set_option maxRecDepth 65536 in
theorem w_t8 : ((((((((words1.drop 24).drop 24).drop 24).drop 24).drop 24).drop 24).drop 24).take 24).all (fun c => isCode c || c.before args0 about1) = true := by decide +kernel
set_option maxRecDepth 65536 in
theorem w_t9 : (((((((((words1.drop 24).drop 24).drop 24).drop 24).drop 24).drop 24).drop 24).drop 24).take 24).all (fun c => isCode c || c.before args0 about1) = true := by decide +kernel
set_option maxRecDepth 65536 in
theorem w_t10 : ((((((((((words1.drop 24).drop 24).drop 24).drop 24).drop 24).drop 24).drop 24).drop 24).drop 24).take 24).all (fun c => isCode c || c.before args0 about1) = true := by decide +kernel
set_option maxRecDepth 65536 in
theorem w_t11 : ((((((((((words1.drop 24).drop 24).drop 24).drop 24).drop 24).drop 24).drop 24).drop 24).drop 24).drop 24).all (fun c => isCode c || c.before args0 about1) = true := by decide +kernel
theorem w_tables : (allAtoms (Jvm.Cond.code x code maxLocals ret :: tables_1)).before args0 about1 = true := by
  rw [allAtoms_all]
  show words1.all (fun c => c.before args0 about1) = true
  refine all_split ?_ w_codes
  rw [← List.take_append_drop 24 words1, List.all_append, w_t1, ← List.take_append_drop 24 (words1.drop 24), List.all_append, w_t2, ← List.take_append_drop 24 ((words1.drop 24).drop 24), List.all_append, w_t3, ← List.take_append_drop 24 (((words1.drop 24).drop 24).drop 24), List.all_append, w_t4, ← List.take_append_drop 24 ((((words1.drop 24).drop 24).drop 24).drop 24), List.all_append, w_t5, ← List.take_append_drop 24 (((((words1.drop 24).drop 24).drop 24).drop 24).drop 24), List.all_append, w_t6, ← List.take_append_drop 24 ((((((words1.drop 24).drop 24).drop 24).drop 24).drop 24).drop 24), List.all_append, w_t7, ← List.take_append_drop 24 (((((((words1.drop 24).drop 24).drop 24).drop 24).drop 24).drop 24).drop 24), List.all_append, w_t8, ← List.take_append_drop 24 ((((((((words1.drop 24).drop 24).drop 24).drop 24).drop 24).drop 24).drop 24).drop 24), List.all_append, w_t9, ← List.take_append_drop 24 (((((((((words1.drop 24).drop 24).drop 24).drop 24).drop 24).drop 24).drop 24).drop 24).drop 24), List.all_append, w_t10, w_t11]
  rfl
set_option maxRecDepth 65536 in
theorem w_rest : rest_1_c.before args0 about1 = true := by decide +kernel
set_option maxRecDepth 65536 in
theorem w_case : (Jvm.Cond.and given_1 narrow_1).before args0 about1 = true := by decide +kernel
theorem w_applies : (headSpec (Jvm.Cond.code x code maxLocals ret :: tables_1) room_1).applies x e0.platform about1 = true :=
  (Spec.applies_iff w_frames).mpr ⟨w_running, w_runnable, w_alone, w_named, w_hears, w_ripe, w_room, w_tables⟩
theorem atStart : AtStart classFile x code maxLocals ret World_1 tables_1 room_1 Calls_1 rest_1 Pre_1 launch0 p0 e0 about1 theMethod args0 below0 :=
  ⟨lists_1, trivial, launch0.admits_env _ _ _, launch0.least_env, fairChoices_fair.cas, fairChoices_fair.clock, w_frames, w_args, w_heap, w_applies, ⟨⟨41, k41, 4, by decide +kernel, rfl, rfl, _, rfl, rfl⟩, trivial⟩, w_rest, w_case⟩
end start1
theorem witness_1 : WitnessClaimed_1 := ⟨start1.p0, start1.e0, start1.about1, start1.theMethod, start1.args0, start1.below0, start1.atStart⟩
end Jvm.Pilot.@@N@@
