import JvmDerived
import JvmDerived.Pilot.@@N@@Statement
import JvmDerived.Pilot.@@N@@Code
set_option linter.unusedVariables false
set_option linter.unusedSimpArgs false
/- laws to paste: Road.backV, Road.eqW, Road.codOf (cut by pick.py; bodies as the Statement names them) -/
namespace Jvm.Pilot.@@N@@
namespace StrChars
open Jvm Sem ClassFile Op Lib Jvm.Stand Jvm.Free.XT Jvm.Free.ALB Jvm.Free.JM Jvm.Free
open Jvm.Lib.Cold (StaticIs)
/-- a char array whose places are chars -/
def Ch (a : Addr) (A : Cell) (U : State) : Prop := Arr .char a A U ∧ Typed .char A
theorem Ch.mv {a : Addr} {A : Cell} {U U' : State} (h : Ch a A U) (hal : U.vm.Alike U'.vm) (hh : U'.heap = U.heap) : Ch a A U' := ⟨h.1.mv hal hh, h.2⟩
theorem Ch.keep {a : Addr} {A : Cell} {U U' : State} (h : Ch a A U) (hal : U.vm.Alike U'.vm) (hk : U'.heap[a]? = some A) : Ch a A U' := ⟨h.1.keep hal hk, h.2⟩
/-- what place i of a char[]'s cell holds -/
def cv (A : Cell) (i : Nat) : Int32 := match A.slots[i]? with | some (.int x) => x | _ => 0
theorem Ch.get {a : Addr} {A : Cell} {U : State} (h : Ch a A U) {i : Nat} (hi : i < A.slots.size) : A.slots[i]? = some (.int (cv A i)) := by
  have e := Array.getElem?_eq_getElem hi
  have f := h.2 i _ e
  unfold cv; rw [e]
  generalize A.slots[i] = v at f
  cases v <;> simp [fits] at f ⊢
/-- the byte that i2b leaves of a char -/
def lo8 (x : Int32) : Int32 := x.toInt8.toInt32
theorem fits_lo8 (y : Int32) : fits .byte (.int (lo8 y)) = true := by
  have h1 := y.toInt8.le_toInt
  have h2 := y.toInt8.toInt_lt
  simp only [lo8, fits, Bool.and_eq_true, decide_eq_true_eq, Int32.le_iff_toInt_le, Int8.toInt_toInt32, show (-128 : Int32).toInt = -128 from by decide, show (127 : Int32).toInt = 127 from by decide]
  omega
/-- A' is A but that each place j of lo .. hi - 1 holds f j -/
def Laid (A A' : Cell) (lo hi : Nat) (f : Nat → Value) : Prop := A'.cls = A.cls ∧ A'.vm = A.vm ∧ A'.slots.size = A.slots.size ∧ ∀ i, A'.slots[i]? = if lo ≤ i ∧ i < hi then some (f i) else A.slots[i]?
theorem Laid.zero (A : Cell) (lo : Nat) (f : Nat → Value) : Laid A A lo (lo + 0) f := ⟨rfl, rfl, rfl, fun i => by rw [if_neg (by omega)]⟩
theorem Laid.step {A Ak : Cell} {lo k : Nat} {f : Nat → Value} {v : Value} (h : Laid A Ak lo k f) (hlo : lo ≤ k) (hk : k < Ak.slots.size) (hv : v = f k) : Laid A (Ak.setSlot k v) lo (k + 1) f := by
  refine ⟨h.1, h.2.1, by simpa [Cell.setSlot] using h.2.2.1, fun i => ?_⟩
  by_cases e : k = i
  · subst e; rw [Cell.slots_setSlot_self v hk, if_pos (by omega), hv]
  · rw [Cell.slots_setSlot_ne v e, h.2.2.2 i]
    by_cases q : lo ≤ i ∧ i < k
    · rw [if_pos q, if_pos (by omega)]
    · rw [if_neg q, if_neg (by omega)]
def U16 : String := "java/lang/StringUTF16"
namespace Cmp5
def yN : MethodName := ⟨"java/lang/StringUTF16", "compress", "([CI[BII)I"⟩
abbrev yB : ByteArray := jdk_52_method_21_code
theorem d0 : decode yB 0 = .ok (.iconst 0, 1) := by decide +kernel
theorem d1 : decode yB 1 = .ok (.istore 5, 2) := by decide +kernel
theorem d3 : decode yB 3 = .ok (.iload 5, 2) := by decide +kernel
theorem d5 : decode yB 5 = .ok (.iload 4, 2) := by decide +kernel
theorem d7 : decode yB 7 = .ok (.if_icmp (.ge) 37, 3) := by decide +kernel
theorem d10 : decode yB 10 = .ok (.aload_n 0, 1) := by decide +kernel
theorem d11 : decode yB 11 = .ok (.iload_n 1, 1) := by decide +kernel
theorem d12 : decode yB 12 = .ok (.caload, 1) := by decide +kernel
theorem d13 : decode yB 13 = .ok (.istore 6, 2) := by decide +kernel
theorem d15 : decode yB 15 = .ok (.iload 6, 2) := by decide +kernel
theorem d17 : decode yB 17 = .ok (.sipush 255, 3) := by decide +kernel
theorem d20 : decode yB 20 = .ok (.if_icmp (.le) 6, 3) := by decide +kernel
theorem d26 : decode yB 26 = .ok (.aload_n 2, 1) := by decide +kernel
theorem d27 : decode yB 27 = .ok (.iload_n 3, 1) := by decide +kernel
theorem d28 : decode yB 28 = .ok (.iload 6, 2) := by decide +kernel
theorem d30 : decode yB 30 = .ok (.i2b, 1) := by decide +kernel
theorem d31 : decode yB 31 = .ok (.bastore, 1) := by decide +kernel
theorem d32 : decode yB 32 = .ok (.iinc 1 1, 3) := by decide +kernel
theorem d35 : decode yB 35 = .ok (.iinc 3 1, 3) := by decide +kernel
theorem d38 : decode yB 38 = .ok (.iinc 5 1, 3) := by decide +kernel
theorem d41 : decode yB 41 = .ok (.goto (-38), 3) := by decide +kernel
theorem d44 : decode yB 44 = .ok (.iload 4, 2) := by decide +kernel
theorem d46 : decode yB 46 = .ok (.ireturn, 1) := by decide +kernel
def site : List Cond := []
def tab : Cond := tabOf yN yB 7 (some .int) site
def P (b : Addr) (A : Cell) (d : Addr) (B : Cell) (o q len : Nat) (args : Array Value) (s : State) : Prop := args = #[.ref b, .int (Int32.ofNat o), .ref d, .int (Int32.ofNat q), .int (Int32.ofNat len)] ∧ Ch b A s ∧ Arr .byte d B s ∧ b ≠ d ∧ o + len ≤ A.slots.size ∧ q + len ≤ B.slots.size ∧ ∀ i, i < len → ¬ 255 < cv A (o + i)
def E (b : Addr) (A : Cell) (d : Addr) (B : Cell) (o q len : Nat) (r : Option Value) (s u : State) : Prop := r = some (.int (Int32.ofNat len)) ∧ ∃ B', Put d B' s u ∧ Laid B B' q (q + len) (fun j => Value.int (lo8 (cv A (o + (j - q)))))
/-- no char of the range above 255: len; the places written hold each char's low byte -/
theorem law (l : Launch) (b : Addr) (A : Cell) (d : Addr) (B : Cell) (o q len : Nat) : Law l yN 5 5 0 0 yB 7 (some .int) site (P b A d B o q len) (E b A d B o q len) (copyLocs d q len) 0 0 := by
  refine Law.of_walk (plainFor_of_name (by decide +kernel)) (by decide +kernel) (by decide +kernel) (by decide) (fun _ _ h => by rw [h.1]; rfl) (fun _ U U' hal hh h => ⟨h.1, h.2.1.mv hal hh, h.2.2.1.mv hal hh, h.2.2.2⟩) (fun r U U' V V' h1 hal h2 h => ⟨h.1, h.2.elim fun B' q => ⟨B', q.1.mv h1 h2, q.2⟩⟩) ?_
  intro p e s m args below meth c s₁ X0 hexec hbytes hml hret hlk hnm hown hh0 W hP
  obtain ⟨rfl, hA, hB, hne, l1, l2, hp⟩ := hP
  have c1 : Steps p.tables e below (s₁.setTop (entryFrame m #[.ref b, .int (Int32.ofNat o), .ref d, .int (Int32.ofNat q), .int (Int32.ofNat len)] 7)) (s₁.setTop (mkF m 0 #[.val (.ref b), .val (.int (Int32.ofNat o)), .val (.ref d), .val (.int (Int32.ofNat q)), .val (.int (Int32.ofNat len)), .unset, .unset] [])) := entry rfl
  have hA0 := hA.1.mv X0.warmed.alike hh0
  have hB0 := hB.mv X0.warmed.alike hh0
  have a31 := hA.1.2.2.2
  have c2 : Steps p.tables e below (s₁.setTop (entryFrame m #[.ref b, .int (Int32.ofNat o), .ref d, .int (Int32.ofNat q), .int (Int32.ofNat len)] 7)) (s₁.setTop (mkF m 3 #[.val (.ref b), .val (.int (Int32.ofNat o)), .val (.ref d), .val (.int (Int32.ofNat q)), .val (.int (Int32.ofNat len)), .val (.int 0), .unset] [])) := c1.trans (by
    refine iconstV X0.here hexec rfl 0 (hb hbytes d0) (by decide) ?_
    refine XS.istore X0.here hexec rfl (hb hbytes d1) rfl rfl ?_
    exact Steps.refl _)
  have loop : ∀ (r i : Nat), i + r = len → ∀ (z : Slot), (z = .unset ∨ ∃ w, z = .val w ∧ w.category = 1) → ∀ (Tl : State) (Bk : Cell), Stand p l e { frames := 0, locals := 0, cells := 0, slots := 0 } s m #[.ref b, .int (Int32.ofNat o), .ref d, .int (Int32.ofNat q), .int (Int32.ofNat len)] below meth c Tl ([] ++ copyLocs d q i) 0 0 → Put d Bk s₁ Tl → Laid B Bk q (q + i) (fun j => Value.int (lo8 (cv A (o + (j - q))))) →
      Steps p.tables e below (s₁.setTop (entryFrame m #[.ref b, .int (Int32.ofNat o), .ref d, .int (Int32.ofNat q), .int (Int32.ofNat len)] 7)) (Tl.setTop (mkF m 3 #[.val (.ref b), .val (.int (Int32.ofNat (o + i))), .val (.ref d), .val (.int (Int32.ofNat (q + i))), .val (.int (Int32.ofNat len)), .val (.int (Int32.ofNat i)), z] [])) → ∃ (T' : State) (B' : Cell) (z' : Slot), Stand p l e { frames := 0, locals := 0, cells := 0, slots := 0 } s m #[.ref b, .int (Int32.ofNat o), .ref d, .int (Int32.ofNat q), .int (Int32.ofNat len)] below meth c T' ([] ++ copyLocs d q len) 0 0 ∧ Put d B' s₁ T' ∧ Laid B B' q (q + len) (fun j => Value.int (lo8 (cv A (o + (j - q))))) ∧
      Steps p.tables e below (s₁.setTop (entryFrame m #[.ref b, .int (Int32.ofNat o), .ref d, .int (Int32.ofNat q), .int (Int32.ofNat len)] 7)) (T'.setTop (mkF m 3 #[.val (.ref b), .val (.int (Int32.ofNat (o + len))), .val (.ref d), .val (.int (Int32.ofNat (q + len))), .val (.int (Int32.ofNat len)), .val (.int (Int32.ofNat len)), z'] [])) := by
    intro r
    induction r with
    | zero =>
      intro i hi z hz Tl Bk Xl pl fl cl
      have hil : i = len := by omega
      rw [hil] at Xl fl cl
      exact ⟨Tl, Bk, z, Xl, pl, fl, cl⟩
    | succ r ih =>
      intro i hi z hz Tl Bk Xl pl fl cl
      have all := X0.warmed.alike.symm.trans Xl.warmed.alike
      have hAl := hA0.keep all (pl.other hne hA0.1)
      have hBk := hB0.like all pl.1 fl.1 fl.2.1 fl.2.2.1
      have hlt : q + i < Bk.slots.size := by rw [fl.2.2.1]; omega
      have c3 : Steps p.tables e below (s₁.setTop (entryFrame m #[.ref b, .int (Int32.ofNat o), .ref d, .int (Int32.ofNat q), .int (Int32.ofNat len)] 7)) (Tl.setTop (mkF m 12 #[.val (.ref b), .val (.int (Int32.ofNat (o + i))), .val (.ref d), .val (.int (Int32.ofNat (q + i))), .val (.int (Int32.ofNat len)), .val (.int (Int32.ofNat i)), z] [.int (Int32.ofNat (o + i)), .ref b])) := cl.trans (by
        refine XS.iload Xl.here hexec rfl (hb hbytes d3) rfl ?_
        refine XS.iload Xl.here hexec rfl (hb hbytes d5) rfl ?_
        refine XS.icmpNo Xl.here hexec rfl (hb hbytes d7) rfl (ii_ge_f (lt32 (by omega) (by omega))) ?_
        refine XS.aloadN Xl.here hexec rfl (hb hbytes d10) rfl rfl ?_
        refine XS.iloadN Xl.here hexec rfl (hb hbytes d11) rfl ?_
        exact Steps.refl _)
      have c4 : Steps p.tables e below (s₁.setTop (entryFrame m #[.ref b, .int (Int32.ofNat o), .ref d, .int (Int32.ofNat q), .int (Int32.ofNat len)] 7)) (Tl.setTop (mkF m 13 #[.val (.ref b), .val (.int (Int32.ofNat (o + i))), .val (.ref d), .val (.int (Int32.ofNat (q + i))), .val (.int (Int32.ofNat len)), .val (.int (Int32.ofNat i)), z] [.int (cv A (o + i))])) := c3.trans (by
        refine Xl.aget hexec hAl rfl (hA.get (i := o + i) (by omega)) rfl rfl (hb hbytes d12) ?_
        exact Steps.refl _)
      have c5 : Steps p.tables e below (s₁.setTop (entryFrame m #[.ref b, .int (Int32.ofNat o), .ref d, .int (Int32.ofNat q), .int (Int32.ofNat len)] 7)) (Tl.setTop (mkF m 15 #[.val (.ref b), .val (.int (Int32.ofNat (o + i))), .val (.ref d), .val (.int (Int32.ofNat (q + i))), .val (.int (Int32.ofNat len)), .val (.int (Int32.ofNat i)), .val (.int (cv A (o + i)))] [])) := c4.trans (by
        refine XS.istoreS Xl.here hexec rfl (hb hbytes d13) rfl rfl hz ?_
        exact Steps.refl _)
      have c6 : Steps p.tables e below (s₁.setTop (entryFrame m #[.ref b, .int (Int32.ofNat o), .ref d, .int (Int32.ofNat q), .int (Int32.ofNat len)] 7)) (Tl.setTop (mkF m 31 #[.val (.ref b), .val (.int (Int32.ofNat (o + i))), .val (.ref d), .val (.int (Int32.ofNat (q + i))), .val (.int (Int32.ofNat len)), .val (.int (Int32.ofNat i)), .val (.int (cv A (o + i)))] [.int (lo8 (cv A (o + i))), .int (Int32.ofNat (q + i)), .ref d])) := c5.trans (by
        refine XS.iload Xl.here hexec rfl (hb hbytes d15) rfl ?_
        refine sipushV Xl.here hexec rfl 255 (hb hbytes d17) (by decide) ?_
        refine XS.icmpYes Xl.here hexec rfl (pc0 := 20) rfl (hb hbytes d20) rfl (ii_le_t (hp i (by omega))) (by decide) rfl ?_
        refine XS.aloadN Xl.here hexec rfl (hb hbytes d26) rfl rfl ?_
        refine XS.iloadN Xl.here hexec rfl (hb hbytes d27) rfl ?_
        refine XS.iload Xl.here hexec rfl (hb hbytes d28) rfl ?_
        refine i2b Xl.here hexec rfl (hb hbytes d30) rfl ?_
        exact Steps.refl _)
      obtain ⟨T7, X7, p7, st7⟩ := Xl.aput hexec hBk rfl hlt rfl (fits_lo8 (cv A (o + i))) (g := (mkF m 31 #[.val (.ref b), .val (.int (Int32.ofNat (o + i))), .val (.ref d), .val (.int (Int32.ofNat (q + i))), .val (.int (Int32.ofNat len)), .val (.int (Int32.ofNat i)), .val (.int (cv A (o + i)))] [.int (lo8 (cv A (o + i))), .int (Int32.ofNat (q + i)), .ref d])) rfl (rest := []) rfl (hb hbytes d31)
      have c8 : Steps p.tables e below (s₁.setTop (entryFrame m #[.ref b, .int (Int32.ofNat o), .ref d, .int (Int32.ofNat q), .int (Int32.ofNat len)] 7)) (T7.setTop (mkF m 32 #[.val (.ref b), .val (.int (Int32.ofNat (o + i))), .val (.ref d), .val (.int (Int32.ofNat (q + i))), .val (.int (Int32.ofNat len)), .val (.int (Int32.ofNat i)), .val (.int (cv A (o + i)))] [])) := c6.trans (st7 _ (Steps.refl _))
      have c9 : Steps p.tables e below (s₁.setTop (entryFrame m #[.ref b, .int (Int32.ofNat o), .ref d, .int (Int32.ofNat q), .int (Int32.ofNat len)] 7)) (T7.setTop (mkF m 3 #[.val (.ref b), .val (.int (Int32.ofNat (o + i) + 1)), .val (.ref d), .val (.int (Int32.ofNat (q + i) + 1)), .val (.int (Int32.ofNat len)), .val (.int (Int32.ofNat i + 1)), .val (.int (cv A (o + i)))] [])) := c8.trans (by
        refine iincV X7.here hexec rfl 1 (hb hbytes d32) (by decide) rfl rfl ?_
        refine iincV X7.here hexec rfl 1 (hb hbytes d35) (by decide) rfl rfl ?_
        refine iincV X7.here hexec rfl 1 (hb hbytes d38) (by decide) rfl rfl ?_
        refine XS.goto X7.here hexec rfl (pc0 := 41) rfl (hb hbytes d41) (by decide) rfl ?_
        exact Steps.refl _)
      have c10 : Steps p.tables e below (s₁.setTop (entryFrame m #[.ref b, .int (Int32.ofNat o), .ref d, .int (Int32.ofNat q), .int (Int32.ofNat len)] 7)) (T7.setTop (mkF m 3 #[.val (.ref b), .val (.int (Int32.ofNat (o + (i + 1)))), .val (.ref d), .val (.int (Int32.ofNat (q + (i + 1)))), .val (.int (Int32.ofNat len)), .val (.int (Int32.ofNat (i + 1))), .val (.int (cv A (o + i)))] [])) := by
        have := c9
        rw [succ32, succ32, succ32] at this
        exact this
      exact ih (i + 1) (by omega) _ (Or.inr ⟨_, rfl, rfl⟩) T7 _ (by rw [copyLocs_step, ← List.append_assoc]; exact X7) (pl.trans p7) (fl.step (by omega) hlt (by simp)) c10
  obtain ⟨T9, B9, z9, X9, p9, f9, g9⟩ := loop len 0 (by omega) .unset (Or.inl rfl) s₁ B (by simpa [copyLocs] using X0) ⟨hB0.1, fun _ _ => rfl, rfl⟩ (Laid.zero _ _ _) c2
  have c11 : Steps p.tables e below (s₁.setTop (entryFrame m #[.ref b, .int (Int32.ofNat o), .ref d, .int (Int32.ofNat q), .int (Int32.ofNat len)] 7)) (T9.setTop (mkF m 46 #[.val (.ref b), .val (.int (Int32.ofNat (o + len))), .val (.ref d), .val (.int (Int32.ofNat (q + len))), .val (.int (Int32.ofNat len)), .val (.int (Int32.ofNat len)), z9] [.int (Int32.ofNat len)])) := g9.trans (by
    refine XS.iload X9.here hexec rfl (hb hbytes d3) rfl ?_
    refine XS.iload X9.here hexec rfl (hb hbytes d5) rfl ?_
    refine XS.icmpYes X9.here hexec rfl (pc0 := 7) rfl (hb hbytes d7) rfl (ii_ge_t (nlt32 (by omega) (Nat.le_refl _))) (by decide) rfl ?_
    refine XS.iload X9.here hexec rfl (hb hbytes d44) rfl ?_
    exact Steps.refl _)
  exact ⟨T9, some (.int (Int32.ofNat len)), _, _, _, X9, by simp, rfl, rfl, (fun h => by cases h), ⟨rfl, B9, p9.from hh0, f9⟩, fun fs hl => c11.trans (X9.ireturnOut hexec hret rfl (Or.inl rfl) (hb hbytes d46) hl)⟩
end Cmp5
namespace Cmp3
def yN : MethodName := ⟨"java/lang/StringUTF16", "compress", "([CII)[B"⟩
abbrev yB : ByteArray := jdk_52_method_16_code
theorem d0 : decode yB 0 = .ok (.iload_n 2, 1) := by decide +kernel
theorem d1 : decode yB 1 = .ok (.newarray .byte, 2) := by decide +kernel
theorem d3 : decode yB 3 = .ok (.astore_n 3, 1) := by decide +kernel
theorem d4 : decode yB 4 = .ok (.aload_n 0, 1) := by decide +kernel
theorem d5 : decode yB 5 = .ok (.iload_n 1, 1) := by decide +kernel
theorem d6 : decode yB 6 = .ok (.aload_n 3, 1) := by decide +kernel
theorem d7 : decode yB 7 = .ok (.iconst 0, 1) := by decide +kernel
theorem d8 : decode yB 8 = .ok (.iload_n 2, 1) := by decide +kernel
theorem d9 : decode yB 9 = .ok (.invokestatic 115, 3) := by decide +kernel
theorem d12 : decode yB 12 = .ok (.istore 4, 2) := by decide +kernel
theorem d14 : decode yB 14 = .ok (.iload 4, 2) := by decide +kernel
theorem d16 : decode yB 16 = .ok (.iload_n 2, 1) := by decide +kernel
theorem d17 : decode yB 17 = .ok (.if_icmp (.eq) 40, 3) := by decide +kernel
theorem d57 : decode yB 57 = .ok (.aload_n 3, 1) := by decide +kernel
theorem d58 : decode yB 58 = .ok (.areturn, 1) := by decide +kernel
def site : List Cond := [.arrayClass .byte, Cmp5.tab] ++ staticW U16 115 Cmp5.yN
def tab : Cond := tabOf yN yB 6 (some (.array .byte)) site
def P (b : Addr) (A : Cell) (o len : Nat) (args : Array Value) (s : State) : Prop := args = #[.ref b, .int (Int32.ofNat o), .int (Int32.ofNat len)] ∧ Ch b A s ∧ o + len ≤ A.slots.size ∧ len ≤ 536870912 ∧ ∀ i, i < len → ¬ 255 < cv A (o + i)
def E (b : Addr) (A : Cell) (o len : Nat) (r : Option Value) (s u : State) : Prop := NewArr .byte "[B" len (fun j => .int (lo8 (cv A (o + j)))) r s u ∧ u.heap.size = s.heap.size + 1
/-- no char of the range above 255: a new byte[] of their low bytes -/
theorem law (l : Launch) (b : Addr) (A : Cell) (o len : Nat) : Law l yN 3 3 1 18 yB 6 (some (.array .byte)) site (P b A o len) (E b A o len) [] 1 len := by
  refine Law.of_walk (plainFor_of_name (by decide +kernel)) (by decide +kernel) (by decide +kernel) (by decide) (fun _ _ h => by rw [h.1]; rfl) (fun _ U U' hal hh h => ⟨h.1, h.2.1.mv hal hh, h.2.2⟩) (fun r U U' V V' h1 hal h2 h => ⟨NewArr.mv r U U' V V' h1 hal h2 h.1, by rw [h1, h2]; exact h.2⟩) ?_
  intro p e s m args below meth c s₁ X0 hexec hbytes hml hret hlk hnm hown hh0 W hP
  obtain ⟨rfl, hA, l1, l2, hp⟩ := hP
  have a31 := hA.1.2.2.2
  have c1 : Steps p.tables e below (s₁.setTop (entryFrame m #[.ref b, .int (Int32.ofNat o), .int (Int32.ofNat len)] 6)) (s₁.setTop (mkF m 0 #[.val (.ref b), .val (.int (Int32.ofNat o)), .val (.int (Int32.ofNat len)), .unset, .unset, .unset] [])) := entry rfl
  have c2 : Steps p.tables e below (s₁.setTop (entryFrame m #[.ref b, .int (Int32.ofNat o), .int (Int32.ofNat len)] 6)) (s₁.setTop (mkF m 1 #[.val (.ref b), .val (.int (Int32.ofNat o)), .val (.int (Int32.ofNat len)), .unset, .unset, .unset] [.int (Int32.ofNat len)])) := c1.trans (by
    refine XS.iloadN X0.here hexec rfl (hb hbytes d0) rfl ?_
    exact Steps.refl _)
  obtain ⟨T3, B3, X3, ba3, bs3, bv3, bh3, bf3, st3⟩ := X0.anew hexec (atype := .byte) (wk W (.arrayClass .byte)) rfl (by show len * 1 ≤ _; omega) (by omega) (g := (mkF m 1 #[.val (.ref b), .val (.int (Int32.ofNat o)), .val (.int (Int32.ofNat len)), .unset, .unset, .unset] [.int (Int32.ofNat len)])) rfl (hb hbytes d1) (rest := []) rfl (Nat.le_refl _) (by show 0 + len ≤ len; omega)
  rw [hh0] at ba3 st3
  have kp3 : XT.Kept s T3 := (XT.Kept.of_eq hh0).push bh3
  have hA3 := hA.keep X3.warmed.alike (kp3 _ _ hA.1.1)
  have hne : b ≠ s.heap.size := hA.1.ne
  have c4 : Steps p.tables e below (s₁.setTop (entryFrame m #[.ref b, .int (Int32.ofNat o), .int (Int32.ofNat len)] 6)) (T3.setTop (mkF m 3 #[.val (.ref b), .val (.int (Int32.ofNat o)), .val (.int (Int32.ofNat len)), .unset, .unset, .unset] [.ref s.heap.size])) := c2.trans (st3 _ (Steps.refl _))
  have c5 : Steps p.tables e below (s₁.setTop (entryFrame m #[.ref b, .int (Int32.ofNat o), .int (Int32.ofNat len)] 6)) (T3.setTop (mkF m 9 #[.val (.ref b), .val (.int (Int32.ofNat o)), .val (.int (Int32.ofNat len)), .val (.ref s.heap.size), .unset, .unset] [.int (Int32.ofNat len), .int 0, .ref s.heap.size, .int (Int32.ofNat o), .ref b])) := c4.trans (by
    refine XS.astoreN X3.here hexec rfl (hb hbytes d3) rfl rfl rfl ?_
    refine XS.aloadN X3.here hexec rfl (hb hbytes d4) rfl rfl ?_
    refine XS.iloadN X3.here hexec rfl (hb hbytes d5) rfl ?_
    refine XS.aloadN X3.here hexec rfl (hb hbytes d6) rfl rfl ?_
    refine iconstV X3.here hexec rfl 0 (hb hbytes d7) (by decide) ?_
    refine XS.iloadN X3.here hexec rfl (hb hbytes d8) rfl ?_
    exact Steps.refl _)
  obtain ⟨v6, T6, X6, E6, g6⟩ := X3.callS hexec (Cmp5.law l b A s.heap.size B3 o 0 len) hown (wks W (staticW U16 115 Cmp5.yN)) (wk W Cmp5.tab) (W := 0) (Nat.le_of_ble_eq_true rfl) (Nat.le_of_ble_eq_true rfl) (Nat.le_refl _) (by show 0 + len + 0 ≤ len; omega) (g := (mkF m 9 #[.val (.ref b), .val (.int (Int32.ofNat o)), .val (.int (Int32.ofNat len)), .val (.ref s.heap.size), .unset, .unset] [.int (Int32.ofNat len), .int (Int32.ofNat 0), .ref s.heap.size, .int (Int32.ofNat o), .ref b])) rfl (by rw [hml]; rfl) c5 (argsL := [.ref b, .int (Int32.ofNat o), .ref s.heap.size, .int (Int32.ofNat 0), .int (Int32.ofNat len)]) (rest := []) rfl rfl (by show 2 * 0 + 0 ≤ _; decide) (hb hbytes d9) (⟨rfl, hA3, ba3, hne, l1, by rw [bs3]; simp, hp⟩)
  obtain ⟨rfl, B6, p6, f6⟩ := E6
  have c7 : Steps p.tables e below (s₁.setTop (entryFrame m #[.ref b, .int (Int32.ofNat o), .int (Int32.ofNat len)] 6)) (T6.setTop (mkF m 12 #[.val (.ref b), .val (.int (Int32.ofNat o)), .val (.int (Int32.ofNat len)), .val (.ref s.heap.size), .unset, .unset] [.int (Int32.ofNat len)])) := g6
  have c8 : Steps p.tables e below (s₁.setTop (entryFrame m #[.ref b, .int (Int32.ofNat o), .int (Int32.ofNat len)] 6)) (T6.setTop (mkF m 58 #[.val (.ref b), .val (.int (Int32.ofNat o)), .val (.int (Int32.ofNat len)), .val (.ref s.heap.size), .val (.int (Int32.ofNat len)), .unset] [.ref s.heap.size])) := c7.trans (by
    refine XS.istore X6.here hexec rfl (hb hbytes d12) rfl rfl ?_
    refine XS.iload X6.here hexec rfl (hb hbytes d14) rfl ?_
    refine XS.iloadN X6.here hexec rfl (hb hbytes d16) rfl ?_
    refine XS.icmpYes X6.here hexec rfl (pc0 := 17) rfl (hb hbytes d17) rfl (ii_eq_t rfl) (by decide) rfl ?_
    refine XS.aloadN X6.here hexec rfl (hb hbytes d57) rfl rfl ?_
    exact Steps.refl _)
  have X8 := X6.wide (L' := []) (cells' := 1) (slots' := len) (fun x hx hlt => by
    simp only [List.nil_append, copyLocs, List.mem_map, List.mem_range] at hx
    obtain ⟨i, -, rfl⟩ := hx
    exact absurd hlt (Nat.lt_irrefl _)) (Nat.le_refl _) (by omega)
  exact ⟨T6, some (.ref s.heap.size), _, _, _, X8, rfl, rfl, rfl, (fun h => by cases h), ⟨⟨rfl, B6, ba3.like (X3.warmed.alike.symm.trans X6.warmed.alike) p6.1 f6.1 f6.2.1 f6.2.2.1, f6.2.1.trans bv3, by rw [X6.warmed.alike.findClass, f6.1]; exact bf3, by rw [f6.2.2.1, bs3]; simp, fun j hj => by rw [f6.2.2.2 j, if_pos (by omega)]; rfl, kp3.put p6 (Nat.le_refl _)⟩, by rw [p6.2.2, bh3, hh0]; simp⟩, fun fs hl => c8.trans (X8.areturnOut hexec rfl hret rfl (hb hbytes d58) hl)⟩
end Cmp3
namespace CodL
def yN : MethodName := ⟨"java/lang/StringUTF16", "coderFromArrayLen", "([BI)B"⟩
abbrev yB : ByteArray := jdk_52_method_15_code
theorem d0 : decode yB 0 = .ok (.iload_n 1, 1) := by decide +kernel
theorem d1 : decode yB 1 = .ok (.aload_n 0, 1) := by decide +kernel
theorem d2 : decode yB 2 = .ok (.arraylength, 1) := by decide +kernel
theorem d3 : decode yB 3 = .ok (.isub, 1) := by decide +kernel
theorem d4 : decode yB 4 = .ok (.bipush 31, 2) := by decide +kernel
theorem d6 : decode yB 6 = .ok (.iushr, 1) := by decide +kernel
theorem d7 : decode yB 7 = .ok (.i2b, 1) := by decide +kernel
theorem d8 : decode yB 8 = .ok (.ireturn, 1) := by decide +kernel
def site : List Cond := []
def tab : Cond := tabOf yN yB 2 (some .byte) site
def P (d : Addr) (B : Cell) (args : Array Value) (s : State) : Prop := args = #[.ref d, .int (Int32.ofNat B.slots.size)] ∧ Arr .byte d B s
def E (r : Option Value) (s u : State) : Prop := XT.PureE (some (.int 0)) r s u
/-- an array as long as the number of chars: LATIN1 -/
theorem law (l : Launch) (d : Addr) (B : Cell) : Law l yN 2 2 0 0 yB 2 (some .byte) site (P d B) E [] 0 0 := by
  refine Law.of_walk (plainFor_of_name (by decide +kernel)) (by decide +kernel) (by decide +kernel) (by decide) (fun _ _ h => by rw [h.1]; rfl) (fun _ U U' hal hh h => ⟨h.1, h.2.mv hal hh⟩) (fun r U U' V V' h1 hal h2 h => XT.PureE.mv r U U' V V' h1 hal h2 h) ?_
  intro p e s m args below meth c s₁ X0 hexec hbytes hml hret hlk hnm hown hh0 W hP
  obtain ⟨rfl, hB⟩ := hP
  have hB0 := hB.mv X0.warmed.alike hh0
  have c1 : Steps p.tables e below (s₁.setTop (entryFrame m #[.ref d, .int (Int32.ofNat B.slots.size)] 2)) (s₁.setTop (mkF m 0 #[.val (.ref d), .val (.int (Int32.ofNat B.slots.size))] [])) := entry rfl
  have c2 : Steps p.tables e below (s₁.setTop (entryFrame m #[.ref d, .int (Int32.ofNat B.slots.size)] 2)) (s₁.setTop (mkF m 2 #[.val (.ref d), .val (.int (Int32.ofNat B.slots.size))] [.ref d, .int (Int32.ofNat B.slots.size)])) := c1.trans (by
    refine XS.iloadN X0.here hexec rfl (hb hbytes d0) rfl ?_
    refine XS.aloadN X0.here hexec rfl (hb hbytes d1) rfl rfl ?_
    exact Steps.refl _)
  have c3 : Steps p.tables e below (s₁.setTop (entryFrame m #[.ref d, .int (Int32.ofNat B.slots.size)] 2)) (s₁.setTop (mkF m 8 #[.val (.ref d), .val (.int (Int32.ofNat B.slots.size))] [.int (lo8 (ushr (Int32.ofNat B.slots.size - Int32.ofNat B.slots.size) 31))])) := c2.trans (by
    refine X0.alen hexec hB0 rfl rfl (hb hbytes d2) ?_
    refine XS.isub X0.here hexec rfl (hb hbytes d3) rfl ?_
    refine bipushV X0.here hexec rfl 31 (hb hbytes d4) (by decide) ?_
    refine iushr X0.here hexec rfl (hb hbytes d6) rfl ?_
    refine i2b X0.here hexec rfl (hb hbytes d7) rfl ?_
    exact Steps.refl _)
  have e0 : lo8 (ushr (Int32.ofNat B.slots.size - Int32.ofNat B.slots.size) 31) = 0 := by rw [Int32.sub_self]; decide
  rw [e0] at c3
  exact ⟨s₁, some (.int 0), _, _, _, X0, rfl, rfl, rfl, (fun h => by cases h), ⟨rfl, hh0⟩, fun fs hl => c3.trans (X0.ireturnOut hexec hret rfl (Or.inr (Or.inr (Or.inl rfl))) (hb hbytes d8) hl)⟩
end CodL
/-- the String at a is Latin-1 over a new byte[] (the heap's one new cell): the low bytes of the len chars of A from o on; every cell but a is kept -/
def Got (a : Addr) (D : Cell) (fV fC : Field) (A : Cell) (o len : Nat) (r : Option Value) (s u : State) : Prop := r = none ∧ ∃ D' V : Cell, Blank "java/lang/String" a D' u ∧ Same D D' [fV.slot, fC.slot] ∧ D'.slots[fV.slot]? = some (.ref s.heap.size) ∧ D'.slots[fC.slot]? = some (.int 0) ∧ Arr .byte s.heap.size V u ∧ V.vm = .none ∧ u.vm.findClass "[B" = some V.cls ∧ V.slots.size = len ∧ (∀ j, j < len → V.slots[j]? = some (.int (lo8 (cv A (o + j))))) ∧ (∀ (y : Addr) (c : Cell), y ≠ a → s.heap[y]? = some c → u.heap[y]? = some c) ∧ u.heap.size = s.heap.size + 1
theorem Got.mv {a : Addr} {D A : Cell} {fV fC : Field} {o len : Nat} : ∀ r (U U' V V' : State), U'.heap = U.heap → V.vm.Alike V'.vm → V'.heap = V.heap → Got a D fV fC A o len r U V → Got a D fV fC A o len r U' V' :=
  fun r U U' V V' h1 hal h2 ⟨e0, D', X, a1, a2, a3, a4, a5, a6, a7, a8, a9, a10, a11⟩ => ⟨e0, D', X, a1.mv hal h2, a2, by rw [h1]; exact a3, a4, by rw [h1]; exact a5.mv hal h2, a6, by rw [hal.findClass]; exact a7, a8, a9, by rw [h1, h2]; exact a10, by rw [h1, h2]; exact a11⟩
namespace New4
def yN : MethodName := ⟨"java/lang/String", "<init>", "([CIILjava/lang/Void;)V"⟩
abbrev yB : ByteArray := jdk_42_method_149_code
theorem d0 : decode yB 0 = .ok (.aload_n 0, 1) := by decide +kernel
theorem d1 : decode yB 1 = .ok (.invokespecial 1, 3) := by decide +kernel
theorem d4 : decode yB 4 = .ok (.iload_n 3, 1) := by decide +kernel
theorem d5 : decode yB 5 = .ok (.ifCond (.ne) 22, 3) := by decide +kernel
theorem d27 : decode yB 27 = .ok (.getstatic 38, 3) := by decide +kernel
theorem d30 : decode yB 30 = .ok (.ifCond (.eq) 28, 3) := by decide +kernel
theorem d33 : decode yB 33 = .ok (.aload_n 1, 1) := by decide +kernel
theorem d34 : decode yB 34 = .ok (.iload_n 2, 1) := by decide +kernel
theorem d35 : decode yB 35 = .ok (.iload_n 3, 1) := by decide +kernel
theorem d36 : decode yB 36 = .ok (.invokestatic 177, 3) := by decide +kernel
theorem d39 : decode yB 39 = .ok (.astore 5, 2) := by decide +kernel
theorem d41 : decode yB 41 = .ok (.aload_n 0, 1) := by decide +kernel
theorem d42 : decode yB 42 = .ok (.aload 5, 2) := by decide +kernel
theorem d44 : decode yB 44 = .ok (.iload_n 3, 1) := by decide +kernel
theorem d45 : decode yB 45 = .ok (.invokestatic 47, 3) := by decide +kernel
theorem d48 : decode yB 48 = .ok (.putfield 15, 3) := by decide +kernel
theorem d51 : decode yB 51 = .ok (.aload_n 0, 1) := by decide +kernel
theorem d52 : decode yB 52 = .ok (.aload 5, 2) := by decide +kernel
theorem d54 : decode yB 54 = .ok (.putfield 9, 3) := by decide +kernel
theorem d57 : decode yB 57 = .ok (.return_, 1) := by decide +kernel
def site : List Cond := [.fieldLink "java/lang/String" 38 "java/lang/String" "COMPACT_STRINGS" "Z", Cmp3.tab, CodL.tab, .laysFinal "java/lang/String" "java/lang/String" "value" "[B", .fieldLink "java/lang/String" 9 "java/lang/String" "value" "[B", .laysFinal "java/lang/String" "java/lang/String" "coder" "B", .fieldLink "java/lang/String" 15 "java/lang/String" "coder" "B"] ++ objW "java/lang/String" 1 ++ staticW "java/lang/String" 177 Cmp3.yN ++ staticW "java/lang/String" 47 CodL.yN
def tab : Cond := tabOf yN yB 6 none site
def P (a : Addr) (D : Cell) (fV fC : Field) (b : Addr) (A : Cell) (z : Int32) (o len : Nat) (args : Array Value) (s : State) : Prop := args = #[.ref a, .ref b, .int (Int32.ofNat o), .int (Int32.ofNat len), .null] ∧ Blank "java/lang/String" a D s ∧ Found "java/lang/String" "value" "[B" fV s ∧ Found "java/lang/String" "coder" "B" fC s ∧ Ch b A s ∧ StaticIs s "java/lang/String" "COMPACT_STRINGS" "Z" (.int z) ∧ ¬ z = 0 ∧ 0 < len ∧ o + len ≤ A.slots.size ∧ len ≤ 536870912 ∧ ∀ i, i < len → ¬ 255 < cv A (o + i)
def E (a : Addr) (D : Cell) (fV fC : Field) (A : Cell) (o len : Nat) (r : Option Value) (s u : State) : Prop := Got a D fV fC A o len r s u
/-- len > 0, no char of the range above 255: a Latin-1 String of their low bytes -/
theorem law (l : Launch) (a : Addr) (D : Cell) (fV fC : Field) (b : Addr) (A : Cell) (z : Int32) (o len : Nat) : Law l yN 5 4 2 35 yB 6 none site (P a D fV fC b A z o len) (E a D fV fC A o len) [⟨a, fC.slot⟩, ⟨a, fV.slot⟩] 1 len := by
  refine Law.of_walk (plainFor_of_name (by decide +kernel)) (by decide +kernel) (by decide +kernel) (by decide) (fun _ _ h => by rw [h.1]; rfl) (fun _ U U' hal hh h => ⟨h.1, h.2.1.mv hal hh, h.2.2.1.al hal, h.2.2.2.1.al hal, h.2.2.2.2.1.mv hal hh, h.2.2.2.2.2.1.there hal hh, h.2.2.2.2.2.2⟩) (fun r U U' V V' h1 hal h2 h => Got.mv r U U' V V' h1 hal h2 h) ?_
  intro p e s m args below meth c s₁ X0 hexec hbytes hml hret hlk hnm hown hh0 W hP
  obtain ⟨rfl, hB, f1, f2, hA, s1, hz, l0, l1, l2, hp⟩ := hP
  have a31 := hA.1.2.2.2
  have c1 : Steps p.tables e below (s₁.setTop (entryFrame m #[.ref a, .ref b, .int (Int32.ofNat o), .int (Int32.ofNat len), .null] 6)) (s₁.setTop (mkF m 0 #[.val (.ref a), .val (.ref b), .val (.int (Int32.ofNat o)), .val (.int (Int32.ofNat len)), .val .null, .unset] [])) := entry rfl
  have c2 : Steps p.tables e below (s₁.setTop (entryFrame m #[.ref a, .ref b, .int (Int32.ofNat o), .int (Int32.ofNat len), .null] 6)) (s₁.setTop (mkF m 1 #[.val (.ref a), .val (.ref b), .val (.int (Int32.ofNat o)), .val (.int (Int32.ofNat len)), .val .null, .unset] [.ref a])) := c1.trans (by
    refine XS.aloadN X0.here hexec rfl (hb hbytes d0) rfl rfl ?_
    exact Steps.refl _)
  obtain ⟨T3, X3, q3, st3⟩ := X0.oinit hexec hown (wks W (objW "java/lang/String" 1)) (g := (mkF m 1 #[.val (.ref a), .val (.ref b), .val (.int (Int32.ofNat o)), .val (.int (Int32.ofNat len)), .val .null, .unset] [.ref a])) rfl (by rw [hml]; rfl) (rest := []) rfl (hb hbytes d1) (W := 0) (by show 2 * 0 + 0 ≤ _; decide) (Nat.le_of_ble_eq_true rfl) (Nat.le_of_ble_eq_true rfl)
  have hh3 := q3.trans hh0
  have c4 : Steps p.tables e below (s₁.setTop (entryFrame m #[.ref a, .ref b, .int (Int32.ofNat o), .int (Int32.ofNat len), .null] 6)) (T3.setTop (mkF m 27 #[.val (.ref a), .val (.ref b), .val (.int (Int32.ofNat o)), .val (.int (Int32.ofNat len)), .val .null, .unset] [])) := (c2.trans (st3 _ (Steps.refl _))).trans (by
    refine XS.iloadN X3.here hexec rfl (hb hbytes d4) rfl ?_
    refine XS.ifYes X3.here hexec rfl (pc0 := 5) rfl (hb hbytes d5) rfl (i0_ne_t (nz32 (by omega) l0)) (by decide) rfl ?_
    exact Steps.refl _)
  obtain ⟨T5, X5, q5, st5⟩ := X3.sget hexec hown (wk W (.fieldLink "java/lang/String" 38 "java/lang/String" "COMPACT_STRINGS" "Z")) s1 (fun _ _ h => by rw [hh3]; exact h) (g := (mkF m 27 #[.val (.ref a), .val (.ref b), .val (.int (Int32.ofNat o)), .val (.int (Int32.ofNat len)), .val .null, .unset] [])) rfl (hb hbytes d27)
  have hh5 := q5.trans hh3
  have c6 : Steps p.tables e below (s₁.setTop (entryFrame m #[.ref a, .ref b, .int (Int32.ofNat o), .int (Int32.ofNat len), .null] 6)) (T5.setTop (mkF m 30 #[.val (.ref a), .val (.ref b), .val (.int (Int32.ofNat o)), .val (.int (Int32.ofNat len)), .val .null, .unset] [.int z])) := c4.trans (st5 _ (Steps.refl _))
  have c7 : Steps p.tables e below (s₁.setTop (entryFrame m #[.ref a, .ref b, .int (Int32.ofNat o), .int (Int32.ofNat len), .null] 6)) (T5.setTop (mkF m 36 #[.val (.ref a), .val (.ref b), .val (.int (Int32.ofNat o)), .val (.int (Int32.ofNat len)), .val .null, .unset] [.int (Int32.ofNat len), .int (Int32.ofNat o), .ref b])) := c6.trans (by
    refine XS.ifNo X5.here hexec rfl (hb hbytes d30) rfl (i0_eq_f hz) ?_
    refine XS.aloadN X5.here hexec rfl (hb hbytes d33) rfl rfl ?_
    refine XS.iloadN X5.here hexec rfl (hb hbytes d34) rfl ?_
    refine XS.iloadN X5.here hexec rfl (hb hbytes d35) rfl ?_
    exact Steps.refl _)
  obtain ⟨v8, T8, X8, E8, g8⟩ := X5.callS hexec (Cmp3.law l b A o len) hown (wks W (staticW "java/lang/String" 177 Cmp3.yN)) (wk W Cmp3.tab) (W := 0) (Nat.le_of_ble_eq_true rfl) (Nat.le_of_ble_eq_true rfl) (Nat.le_refl _) (by show 0 + len ≤ len; omega) (g := (mkF m 36 #[.val (.ref a), .val (.ref b), .val (.int (Int32.ofNat o)), .val (.int (Int32.ofNat len)), .val .null, .unset] [.int (Int32.ofNat len), .int (Int32.ofNat o), .ref b])) rfl (by rw [hml]; rfl) c7 (argsL := [.ref b, .int (Int32.ofNat o), .int (Int32.ofNat len)]) (rest := []) rfl rfl (by show 2 * 0 + 0 ≤ _; decide) (hb hbytes d36) (⟨rfl, hA.mv X5.warmed.alike hh5, l1, l2, hp⟩)
  obtain ⟨e8, z8⟩ := E8
  obtain ⟨rfl, N, n1, n2, n3, n4, n5, n6⟩ := NewArr.mv _ T5 s _ _ hh5.symm (Vm.Alike.refl _) rfl e8
  rw [hh5] at z8
  have hB1 := hB.keep X8.warmed.alike (n6 _ _ hB.1)
  have hne : s.heap.size ≠ a := (Nat.ne_of_lt (Array.getElem?_eq_some_iff.mp hB.1).1).symm
  have c9 : Steps p.tables e below (s₁.setTop (entryFrame m #[.ref a, .ref b, .int (Int32.ofNat o), .int (Int32.ofNat len), .null] 6)) (T8.setTop (mkF m 39 #[.val (.ref a), .val (.ref b), .val (.int (Int32.ofNat o)), .val (.int (Int32.ofNat len)), .val .null, .unset] [.ref s.heap.size])) := g8
  have c10 : Steps p.tables e below (s₁.setTop (entryFrame m #[.ref a, .ref b, .int (Int32.ofNat o), .int (Int32.ofNat len), .null] 6)) (T8.setTop (mkF m 45 #[.val (.ref a), .val (.ref b), .val (.int (Int32.ofNat o)), .val (.int (Int32.ofNat len)), .val .null, .val (.ref s.heap.size)] [.int (Int32.ofNat N.slots.size), .ref s.heap.size, .ref a])) := by
    have hc : Steps p.tables e below (s₁.setTop (entryFrame m #[.ref a, .ref b, .int (Int32.ofNat o), .int (Int32.ofNat len), .null] 6)) (T8.setTop (mkF m 45 #[.val (.ref a), .val (.ref b), .val (.int (Int32.ofNat o)), .val (.int (Int32.ofNat len)), .val .null, .val (.ref s.heap.size)] [.int (Int32.ofNat len), .ref s.heap.size, .ref a])) := c9.trans (by
      refine XS.astore X8.here hexec rfl (hb hbytes d39) rfl rfl rfl ?_
      refine XS.aloadN X8.here hexec rfl (hb hbytes d41) rfl rfl ?_
      refine XS.aload X8.here hexec rfl (hb hbytes d42) rfl rfl ?_
      refine XS.iloadN X8.here hexec rfl (hb hbytes d44) rfl ?_
      exact Steps.refl _)
    rw [n4]; exact hc
  obtain ⟨v11, T11, X11, E11, g11⟩ := X8.callS hexec (CodL.law l s.heap.size N) hown (wks W (staticW "java/lang/String" 47 CodL.yN)) (wk W CodL.tab) (W := 1) (Nat.le_of_ble_eq_true rfl) (Nat.le_of_ble_eq_true rfl) (Nat.le_refl _) (by show 0 + len + 0 ≤ len; omega) (g := (mkF m 45 #[.val (.ref a), .val (.ref b), .val (.int (Int32.ofNat o)), .val (.int (Int32.ofNat len)), .val .null, .val (.ref s.heap.size)] [.int (Int32.ofNat N.slots.size), .ref s.heap.size, .ref a])) rfl (by rw [hml]; rfl) c10 (argsL := [.ref s.heap.size, .int (Int32.ofNat N.slots.size)]) (rest := [.ref a]) rfl rfl (by show 2 * 0 + (1 + 0) ≤ _; decide) (hb hbytes d45) (⟨rfl, n1⟩)
  obtain ⟨rfl, q11⟩ := E11
  have hB11 := hB1.mv (X8.warmed.alike.symm.trans X11.warmed.alike) q11
  have c12 : Steps p.tables e below (s₁.setTop (entryFrame m #[.ref a, .ref b, .int (Int32.ofNat o), .int (Int32.ofNat len), .null] 6)) (T11.setTop (mkF m 48 #[.val (.ref a), .val (.ref b), .val (.int (Int32.ofNat o)), .val (.int (Int32.ofNat len)), .val .null, .val (.ref s.heap.size)] [.int 0, .ref a])) := g11
  obtain ⟨T13, X13, p13, bl13, sl13, st13⟩ := X11.finit hexec hown (wk W (.fieldLink "java/lang/String" 15 "java/lang/String" "coder" "B")) (Or.inr ⟨_, (wk W (.laysFinal "java/lang/String" "java/lang/String" "coder" "B"))⟩) (Or.inl ⟨rfl, hnm⟩) f2 (Or.inl rfl) hB11 (t := .byte) (by decide +kernel) rfl (g := (mkF m 48 #[.val (.ref a), .val (.ref b), .val (.int (Int32.ofNat o)), .val (.int (Int32.ofNat len)), .val .null, .val (.ref s.heap.size)] [.int 0, .ref a])) rfl (rest := []) rfl (hb hbytes d48)
  have c14 : Steps p.tables e below (s₁.setTop (entryFrame m #[.ref a, .ref b, .int (Int32.ofNat o), .int (Int32.ofNat len), .null] 6)) (T13.setTop (mkF m 54 #[.val (.ref a), .val (.ref b), .val (.int (Int32.ofNat o)), .val (.int (Int32.ofNat len)), .val .null, .val (.ref s.heap.size)] [.ref s.heap.size, .ref a])) := (c12.trans (st13 _ (Steps.refl _))).trans (by
    refine XS.aloadN X13.here hexec rfl (hb hbytes d51) rfl rfl ?_
    refine XS.aload X13.here hexec rfl (hb hbytes d52) rfl rfl ?_
    exact Steps.refl _)
  obtain ⟨T15, X15, p15, bl15, sl15, st15⟩ := X13.finit hexec hown (wk W (.fieldLink "java/lang/String" 9 "java/lang/String" "value" "[B")) (Or.inr ⟨_, (wk W (.laysFinal "java/lang/String" "java/lang/String" "value" "[B"))⟩) (Or.inl ⟨rfl, hnm⟩) f1 (Or.inl rfl) bl13 (t := (.array .byte)) (by decide +kernel) rfl (g := (mkF m 54 #[.val (.ref a), .val (.ref b), .val (.int (Int32.ofNat o)), .val (.int (Int32.ofNat len)), .val .null, .val (.ref s.heap.size)] [.ref s.heap.size, .ref a])) rfl (rest := []) rfl (hb hbytes d54)
  have c16 : Steps p.tables e below (s₁.setTop (entryFrame m #[.ref a, .ref b, .int (Int32.ofNat o), .int (Int32.ofNat len), .null] 6)) (T15.setTop (mkF m 57 #[.val (.ref a), .val (.ref b), .val (.int (Int32.ofNat o)), .val (.int (Int32.ofNat len)), .val .null, .val (.ref s.heap.size)] [])) := c14.trans (st15 _ (Steps.refl _))
  have ap := apart (Or.inr ⟨_, (wk W (.laysFinal "java/lang/String" "java/lang/String" "value" "[B"))⟩) (Or.inr ⟨_, (wk W (.laysFinal "java/lang/String" "java/lang/String" "coder" "B"))⟩) f1 f2 (t₁ := .array .byte) (t₂ := .byte) (by decide +kernel) (by decide +kernel) (by decide)
  have al := X8.warmed.alike.symm.trans X15.warmed.alike
  have n7 : T11.heap[s.heap.size]? = some N := by rw [q11]; exact n1.1
  exact ⟨T15, none, _, _, _, X15, by simp, rfl, by omega, (fun _ => rfl), ⟨rfl, _, N, bl15, ((Same.refl D _).set _ (by simp)).set _ (by simp), sl15, (Cell.slots_setSlot_ne _ ap).trans sl13, n1.keep al (p15.other hne (p13.other hne n7)), n2, by rw [al.findClass]; exact n3, n4, n5, fun y c h1 h2 => p15.other h1 (p13.other h1 (by rw [q11]; exact n6 y c h2)), by rw [p15.2.2, p13.2.2, q11]; exact z8⟩, fun fs hl => c16.trans (X15.returnOut hexec hret (hb hbytes d57) hl)⟩
end New4
namespace New1
def yN : MethodName := ⟨"java/lang/String", "<init>", "([C)V"⟩
abbrev yB : ByteArray := jdk_42_method_3_code
theorem d0 : decode yB 0 = .ok (.aload_n 0, 1) := by decide +kernel
theorem d1 : decode yB 1 = .ok (.aload_n 1, 1) := by decide +kernel
theorem d2 : decode yB 2 = .ok (.iconst 0, 1) := by decide +kernel
theorem d3 : decode yB 3 = .ok (.aload_n 1, 1) := by decide +kernel
theorem d4 : decode yB 4 = .ok (.arraylength, 1) := by decide +kernel
theorem d5 : decode yB 5 = .ok (.aconst_null, 1) := by decide +kernel
theorem d6 : decode yB 6 = .ok (.invokespecial 27, 3) := by decide +kernel
theorem d9 : decode yB 9 = .ok (.return_, 1) := by decide +kernel
def site : List Cond := [New4.tab] ++ initW "java/lang/String" 27 New4.yN
def tab : Cond := tabOf yN yB 2 none site
def P (a : Addr) (D : Cell) (fV fC : Field) (b : Addr) (A : Cell) (z : Int32) (args : Array Value) (s : State) : Prop := args = #[.ref a, .ref b] ∧ Blank "java/lang/String" a D s ∧ Found "java/lang/String" "value" "[B" fV s ∧ Found "java/lang/String" "coder" "B" fC s ∧ Ch b A s ∧ StaticIs s "java/lang/String" "COMPACT_STRINGS" "Z" (.int z) ∧ ¬ z = 0 ∧ 0 < A.slots.size ∧ A.slots.size ≤ 536870912 ∧ ∀ i, i < A.slots.size → ¬ 255 < cv A i
def E (a : Addr) (D : Cell) (fV fC : Field) (A : Cell) (r : Option Value) (s u : State) : Prop := Got a D fV fC A 0 A.slots.size r s u
/-- new String(chars), not empty, no char above 255: a Latin-1 String of their low bytes -/
theorem law (l : Launch) (a : Addr) (D : Cell) (fV fC : Field) (b : Addr) (A : Cell) (z : Int32) : Law l yN 2 1 3 52 yB 2 none site (P a D fV fC b A z) (E a D fV fC A) [⟨a, fC.slot⟩, ⟨a, fV.slot⟩] 1 A.slots.size := by
  refine Law.of_walk (plainFor_of_name (by decide +kernel)) (by decide +kernel) (by decide +kernel) (by decide) (fun _ _ h => by rw [h.1]; rfl) (fun _ U U' hal hh h => ⟨h.1, h.2.1.mv hal hh, h.2.2.1.al hal, h.2.2.2.1.al hal, h.2.2.2.2.1.mv hal hh, h.2.2.2.2.2.1.there hal hh, h.2.2.2.2.2.2⟩) (fun r U U' V V' h1 hal h2 h => Got.mv r U U' V V' h1 hal h2 h) ?_
  intro p e s m args below meth c s₁ X0 hexec hbytes hml hret hlk hnm hown hh0 W hP
  obtain ⟨rfl, hB, f1, f2, hA, s1, hz, l0, l2, hp⟩ := hP
  have c1 : Steps p.tables e below (s₁.setTop (entryFrame m #[.ref a, .ref b] 2)) (s₁.setTop (mkF m 0 #[.val (.ref a), .val (.ref b)] [])) := entry rfl
  have c2 : Steps p.tables e below (s₁.setTop (entryFrame m #[.ref a, .ref b] 2)) (s₁.setTop (mkF m 6 #[.val (.ref a), .val (.ref b)] [.null, .int (Int32.ofNat A.slots.size), .int 0, .ref b, .ref a])) := c1.trans (by
    refine XS.aloadN X0.here hexec rfl (hb hbytes d0) rfl rfl ?_
    refine XS.aloadN X0.here hexec rfl (hb hbytes d1) rfl rfl ?_
    refine iconstV X0.here hexec rfl 0 (hb hbytes d2) (by decide) ?_
    refine XS.aloadN X0.here hexec rfl (hb hbytes d3) rfl rfl ?_
    refine X0.alen hexec (hA.1.mv X0.warmed.alike hh0) rfl rfl (hb hbytes d4) ?_
    refine XS.aconstNull X0.here hexec rfl (hb hbytes d5) ?_
    exact Steps.refl _)
  obtain ⟨v3, T3, X3, E3, g3⟩ := X0.callN hexec (New4.law l a D fV fC b A z 0 A.slots.size) rfl hown (wks W (initW "java/lang/String" 27 New4.yN)) (W New4.tab (by simp only [site, List.mem_cons, List.mem_append, true_or, or_true])) (W := 0) (Nat.le_of_ble_eq_true rfl) (Nat.le_of_ble_eq_true rfl) (Nat.le_refl _) (by show 0 + A.slots.size ≤ A.slots.size; omega) (g := (mkF m 6 #[.val (.ref a), .val (.ref b)] [.null, .int (Int32.ofNat A.slots.size), .int (Int32.ofNat 0), .ref b, .ref a])) rfl (by rw [hml]; rfl) c2 (argsL := [.ref b, .int (Int32.ofNat 0), .int (Int32.ofNat A.slots.size), .null]) (rest := []) rfl rfl (by show 2 * 0 + 0 ≤ _; decide) (hb hbytes d6) (⟨rfl, hB.mv X0.warmed.alike hh0, f1.al X0.warmed.alike, f2.al X0.warmed.alike, hA.mv X0.warmed.alike hh0, s1.there X0.warmed.alike hh0, hz, l0, by omega, l2, fun i hi => by rw [Nat.zero_add]; exact hp i hi⟩)
  have e0 := Got.mv _ s₁ s _ _ hh0.symm (Vm.Alike.refl _) rfl E3
  obtain rfl := e0.1
  have c4 : Steps p.tables e below (s₁.setTop (entryFrame m #[.ref a, .ref b] 2)) (T3.setTop (mkF m 9 #[.val (.ref a), .val (.ref b)] [])) := g3
  exact ⟨T3, none, _, _, _, X3, by simp, rfl, by omega, (fun _ => rfl), e0, fun fs hl => c4.trans (X3.returnOut hexec hret (hb hbytes d9) hl)⟩
theorem pays {l : Launch} {R : Room} {p : Program} {e : Env} {below : List Frame} {s : State} {sargs : Array Value} {len W : Nat} (a : Addr) (D : Cell) (fV fC : Field) (b : Addr) (A : Cell) (z : Int32) (htab : tab.before sargs s = true) (hfr : 4 ≤ R.frames) (hlo : W + 65 ≤ R.locals) :
    Back l R p e below s sargs yN len W (fun A₁ a₁ => A₁.cells + 1 ≤ R.cells ∧ A₁.slots + A.slots.size ≤ R.slots ∧ P a D fV fC b A z a₁ A₁.U) (fun A₁ _ v₁ B₁ => E a D fV fC A v₁ A₁.U B₁.U ∧ B₁.locs = A₁.locs ++ [⟨a, fC.slot⟩, ⟨a, fV.slot⟩] ∧ B₁.cells = A₁.cells + 1 ∧ B₁.slots = A₁.slots + A.slots.size) :=
  (law l a D fV fC b A z).pays htab hfr (by omega)
end New1
/-- the byte, read back as charAt reads it, is the char -/
theorem lo8_mask {x : Int32} (h0 : ¬ x < 0) (h1 : ¬ 255 < x) : lo8 x &&& 255 = x := by
  have t : ∀ k : Fin 256, lo8 (Int32.ofNat k.val) &&& 255 = Int32.ofNat k.val := by decide +kernel
  rw [Int32.lt_iff_toInt_lt] at h0 h1
  have e0 : (0 : Int32).toInt = 0 := rfl
  have e1 : (255 : Int32).toInt = 255 := rfl
  obtain ⟨k, hk⟩ : ∃ k : Nat, x.toInt = k := ⟨x.toInt.toNat, by omega⟩
  have hx : x = Int32.ofNat k := Int32.toInt_inj.mp (by rw [hk, Int32.toInt_ofNat_small (by omega)])
  rw [hx]
  exact t ⟨k, by omega⟩
end StrChars
namespace StrChars.Road
open Jvm Sem ClassFile Op Lib Jvm.Stand Jvm.Free Jvm.Free.XT
open Jvm.Lib.Cold (StaticIs)
abbrev ST : String := "java/lang/String"
/-- every table word that New1's law asks, flat -/
abbrev words : List Jvm.Cond := [.code New1.yN New1.yB 2 none, .initialized ST, .methodLink ST 27 New4.yN, .instanceMethod New4.yN,
  .code New4.yN New4.yB 6 none, .fieldLink ST 38 ST "COMPACT_STRINGS" "Z", .laysFinal ST ST "value" "[B", .fieldLink ST 9 ST "value" "[B", .laysFinal ST ST "coder" "B", .fieldLink ST 15 ST "coder" "B",
  .methodLink ST 1 Lib.objectInit, .instanceMethod Lib.objectInit, .code Lib.objectInit ⟨#[0xb1]⟩ 1 none, .methodLink ST 177 Cmp3.yN, .static Cmp3.yN, .methodLink ST 47 CodL.yN, .static CodL.yN,
  .code Cmp3.yN Cmp3.yB 6 (some (.array .byte)), .initialized U16, .arrayClass .byte, .methodLink U16 115 Cmp5.yN, .static Cmp5.yN, .code Cmp5.yN Cmp5.yB 7 (some .int), .code CodL.yN CodL.yB 2 (some .byte)]
theorem tab_of {a : Array Value} {s : State} (h : ∀ w ∈ words, w.before a s = true) : New1.tab.before a s = true := by
  have h5 : Cmp5.tab.before a s = true := unparts (wk h (.code Cmp5.yN Cmp5.yB 7 (some .int))) (wks h (.initialized Cmp5.yN.cls :: Cmp5.site))
  have hc : CodL.tab.before a s = true := unparts (wk h (.code CodL.yN CodL.yB 2 (some .byte))) (wks h (.initialized CodL.yN.cls :: CodL.site))
  have q5 : ∀ w ∈ Cmp5.tab :: words, w.before a s = true := fun w hw => (List.mem_cons.mp hw).elim (fun e => e ▸ h5) (h w)
  have h3 : Cmp3.tab.before a s = true := unparts (wk q5 (.code Cmp3.yN Cmp3.yB 6 (some (.array .byte)))) (wks q5 (.initialized Cmp3.yN.cls :: Cmp3.site))
  have q3 : ∀ w ∈ Cmp3.tab :: CodL.tab :: words, w.before a s = true := fun w hw => (List.mem_cons.mp hw).elim (fun e => e ▸ h3) fun hw => (List.mem_cons.mp hw).elim (fun e => e ▸ hc) (h w)
  have h4 : New4.tab.before a s = true := unparts (wk q3 (.code New4.yN New4.yB 6 none)) (wks q3 (.initialized New4.yN.cls :: New4.site))
  have q4 : ∀ w ∈ New4.tab :: words, w.before a s = true := fun w hw => (List.mem_cons.mp hw).elim (fun e => e ▸ h4) (h w)
  exact unparts (wk q4 (.code New1.yN New1.yB 2 none)) (wks q4 (.initialized New1.yN.cls :: New1.site))
/-- the words ride from the start Z to the walk's own state -/
theorem moved {Z s : State} {a0 args : Array Value} (hZ : Z.Warmed39 s.vm) (hw : ∀ d ∈ words, d.before a0 Z = true) : ∀ d ∈ words, d.before args s = true := fun d hd => by
  have q := hw d hd
  have t : ∀ d ∈ words, d = .arrayClass .byte ∨ (d.onTables && d.keepsFace) = true := by decide +kernel
  rcases t d hd with rfl | t
  · exact RoadKit.mvA hZ q
  · exact RoadKit.mv hZ q t
/-- WHAT COMES BACK, over the tables of the start Z: h the heap at the call, h' behind it -/
def Q (Z : State) (x : Addr) (A : Cell) (h : Heap) (v : Option Value) (h' : Heap) (L : List Loc) : Prop := v = none ∧ (∀ y ∈ L, y.base = x) ∧ RoadKit.Keep h h' [x] ∧ h'.size = h.size + 1 ∧ RoadKit.Exa Z h' x ST ∧ RoadKit.Fld Z h' x ST "value" "[B" (.ref h.size) ∧ RoadKit.Fld Z h' x ST "coder" "B" (.int 0) ∧
  (∃ V : Cell, RoadKit.Arr Z h' h.size V .byte ∧ V.vm = .none ∧ Z.vm.findClass "[B" = some V.cls ∧ V.slots.size = A.slots.size ∧ ∀ j, j < A.slots.size → V.slots[j]? = some (.int (lo8 (cv A j)))) ∧
  ∀ (O n d : String) (w : Value), RoadKit.Fld Z h x O n d w → RoadKit.slotOf Z O n d ≠ RoadKit.slotOf Z ST "value" "[B" → RoadKit.slotOf Z O n d ≠ RoadKit.slotOf Z ST "coder" "B" → RoadKit.Fld Z h' x O n d w
/-- **new String(chars) AT A CALL, IN THE ROAD'S FORM**: for specialBack behind newO: x the fresh String, b the char[] with the cell A -/
theorem back {p : Program} {l : Launch} {e : Env} {R : Room} {s : State} {args : Array Value} {below : List Frame} {len W : Nat} {Z : State} {a0 : Array Value} {h : Heap} (hZ : Z.Warmed39 s.vm) (hw : ∀ d ∈ words, d.before a0 Z = true) {kI : Nat} (wi : (Jvm.Cond.instantiable ST kI).before a0 Z = true)
    {x b : Addr} {A : Cell} {z : Int32} {v0 c0 : Value} (E : RoadKit.Exa Z h x ST) (V : RoadKit.Fld Z h x ST "value" "[B" v0) (C : RoadKit.Fld Z h x ST "coder" "B" c0) (K : RoadKit.Arr Z h b A .char) (hty : Typed .char A) (S : RoadKit.Sta Z h ST "COMPACT_STRINGS" "Z" (.int z)) (hz : ¬ z = 0)
    (l0 : 0 < A.slots.size) (l2 : A.slots.size ≤ 536870912) (hp : ∀ i, i < A.slots.size → ¬ 255 < cv A i) (hfr : 4 ≤ R.frames) (hlo : W + 65 ≤ R.locals) :
    Back l R p e below s args New1.yN len W (fun P a => a = #[.ref x, .ref b] ∧ P.U.heap = h ∧ P.cells + 1 ≤ R.cells ∧ P.slots + A.slots.size ≤ R.slots)
      (fun P _ v B => ∃ L, Q Z x A h v B.U.heap L ∧ B.locs = P.locs ++ L ∧ B.cells = P.cells + 1 ∧ B.slots = P.slots + A.slots.size) := by
  intro m meth c P g ig mk a X hg hsize hdg hW hn hp'
  obtain ⟨rfl, rfl, r1, r2⟩ := hp'
  have al : Z.vm.Alike P.U.vm := hZ.alike.trans X.warmed.alike
  obtain ⟨D, cfV, kV, iV, fV, hD, gV, stV, knV, obV, asV, slV⟩ := id V
  obtain ⟨D', cfC, kC, iC, fC, hD', gC, stC, -, -, asC, slC⟩ := id C
  cases hD.symm.trans hD'
  obtain ⟨D2, kD, e1, e2, e3, e4, e5⟩ := id E
  cases hD.symm.trans e1
  obtain ⟨c2, k2, i1, i2, i3, -⟩ := Cond.instantiable_spec wi
  cases e2.symm.trans i1
  cases e3.symm.trans i2
  obtain ⟨kU, u1, u2⟩ := al.2.2 _ _ e3
  have hB : Blank ST x D P.U := ⟨hD, ⟨knV, fun q hq => by rw [hq] at obV; cases obV⟩, by rw [al.findClass]; exact e2, kU, u1, by rw [u2]; exact i3, by rw [u2]; exact e5 i3⟩
  have F1 : Found ST "value" "[B" fV P.U := ⟨SBG.found_only al ⟨cfV, kV, iV, gV⟩, stV⟩
  have F2 : Found ST "coder" "B" fC P.U := ⟨SBG.found_only al ⟨cfC, kC, iC, gC⟩, stC⟩
  have hA : Ch b A P.U := ⟨⟨K.1, State.isArrayOf_alike al K.2.1, K.2.2, by omega⟩, hty⟩
  have hS : StaticIs P.U ST "COMPACT_STRINGS" "Z" (.int z) := by
    obtain ⟨cfS, iS, kS, fS, st, cS, t1, t2, t3, t4, t5, t6, t7⟩ := S
    exact StaticIs.there (s := { Z with heap := P.U.heap }) ⟨cfS, iS, kS, fS, st, cS, t1, t2, t3, t4, t5, (fun q => by rw [q] at t6; cases t6), t7⟩ al rfl
  obtain ⟨v, B, X', ⟨⟨hv, E', V', q1, q2, q3, q4, q5, q6, q7, q8, q9, q10, q11⟩, hl, hc, hs⟩, st⟩ := New1.pays x D fV fC b A z (tab_of (moved hZ hw)) hfr hlo m meth c P g ig mk _ X hg hsize hdg hW hn ⟨r1, r2, rfl, hB, F1, F2, hA, hS, hz, l0, l2, hp⟩
  have al' : Z.vm.Alike B.U.vm := hZ.alike.trans X'.warmed.alike
  have hsz : E'.slots.size = D.slots.size := by
    obtain ⟨-, -, -, kB, w1, w2, w3⟩ := q1
    obtain ⟨kB', y1, y2⟩ := al'.2.2 _ _ e3
    rw [q2.2.1] at w1
    cases w1.symm.trans y1
    rw [w3, e5 i3, y2]
  refine ⟨v, B, X', ⟨_, ⟨hv, ?_, ⟨by omega, fun y cy hy hn' => q10 y cy (by simpa using hn') hy, fun y cy hy => ?_⟩, q11, ⟨E', _, q1.1, by rw [q2.2.1]; exact e2, by rw [q2.2.1]; exact e3, by rw [q2.1]; exact obV, fun _ => by rw [hsz]; exact e5 i3⟩,
    ⟨E', cfV, kV, iV, fV, q1.1, gV, stV, by rw [q2.1]; exact knV, by rw [q2.1]; exact obV, by rw [q2.2.1]; exact asV, q3⟩, ⟨E', cfC, kC, iC, fC, q1.1, gC, stC, by rw [q2.1]; exact knV, by rw [q2.1]; exact obV, by rw [q2.2.1]; exact asC, q4⟩,
    ⟨V', ⟨q5.1, State.isArrayOf_alike al'.symm q5.2.1, q5.2.2.1⟩, q6, by rw [← al'.findClass]; exact q7, q8, fun j hj => by have := q9 j hj; rwa [Nat.zero_add] at this⟩, fun O n d w F n1 n2 => ?_⟩, hl, hc, hs⟩, st⟩
  · intro y hy
    simp only [List.mem_cons, List.not_mem_nil, or_false] at hy
    rcases hy with rfl | rfl <;> rfl
  · by_cases q : y = x
    · subst q
      cases hD.symm.trans hy
      exact ⟨E', q1.1, q2.2.1, q2.1, hsz⟩
    · exact ⟨cy, q10 y cy q hy, rfl, rfl, rfl⟩
  · obtain ⟨D3, cf, k, i, f, g1, g2, g3, g4, g5, g6, g7⟩ := F
    cases hD.symm.trans g1
    simp only [RoadKit.slotOf, g2, gV, gC, Option.map_some, Option.getD_some] at n1 n2
    exact ⟨E', cf, k, i, f, q1.1, g2, g3, by rw [q2.1]; exact g4, by rw [q2.1]; exact g5, by rw [q2.2.1]; exact g6, by rw [q2.2.2 f.slot (by simp [n1, n2])]; exact g7⟩
end StrChars.Road
namespace StrChars.Road
open Jvm Sem ClassFile Op Lib Jvm.Stand Jvm.Free Jvm.Free.XT
/-- WHAT COMES BACK, the byte[] as a list of values -/
def QA (Z : State) (x : Addr) (zn : Int32) (cs : List Int32) (h : Heap) (v : Option Value) (h' : Heap) (L : List Loc) : Prop := v = none ∧ (∀ y ∈ L, y.base = x) ∧ RoadKit.Keep h h' [x] ∧ h'.size = h.size + 1 ∧ RoadKit.Exa Z h' x ST ∧ RoadKit.Fld Z h' x ST "value" "[B" (.ref h.size) ∧ RoadKit.Fld Z h' x ST "coder" "B" (.int 0) ∧
  (∃ kb, Z.vm.findClass "[B" = some kb ∧ RoadKit.Arv Z h' h.size kb .byte zn (cs.map fun c => .int (lo8 c)) (.int 0)) ∧
  ∀ (O n d : String) (w : Value), RoadKit.Fld Z h x O n d w → RoadKit.slotOf Z O n d ≠ RoadKit.slotOf Z ST "value" "[B" → RoadKit.slotOf Z O n d ≠ RoadKit.slotOf Z ST "coder" "B" → RoadKit.Fld Z h' x O n d w
/-- **new String(chars) AT A CALL, THE ARRAYS AS LISTS**: the char[] at b holds cs, not empty, no char above 255 -/
theorem backArv {p : Program} {l : Launch} {e : Env} {R : Room} {s : State} {args : Array Value} {below : List Frame} {len W : Nat} {Z : State} {a0 : Array Value} {h : Heap} (hZ : Z.Warmed39 s.vm) (hw : ∀ d ∈ words, d.before a0 Z = true) {kI : Nat} (wi : (Jvm.Cond.instantiable ST kI).before a0 Z = true)
    {x b : Addr} {k : ClassId} {zn z : Int32} {cs : List Int32} {dv v0 c0 : Value} (E : RoadKit.Exa Z h x ST) (V : RoadKit.Fld Z h x ST "value" "[B" v0) (C : RoadKit.Fld Z h x ST "coder" "B" c0) (K : RoadKit.Arv Z h b k .char zn (cs.map Value.int) dv) (S : RoadKit.Sta Z h ST "COMPACT_STRINGS" "Z" (.int z)) (hz : ¬ z = 0)
    (hlen : zn.toNatClampNeg = cs.length) (h0 : 0 < cs.length) (hbig : cs.length ≤ 536870912) (hall : ∀ c ∈ cs, ¬ 255 < c) (hfr : 4 ≤ R.frames) (hlo : W + 65 ≤ R.locals) :
    Back l R p e below s args New1.yN len W (fun P a => a = #[.ref x, .ref b] ∧ P.U.heap = h ∧ P.cells + 1 ≤ R.cells ∧ P.slots + cs.length ≤ R.slots)
      (fun P _ v B => ∃ L, QA Z x zn cs h v B.U.heap L ∧ B.locs = P.locs ++ L ∧ B.cells = P.cells + 1 ∧ B.slots = P.slots + cs.length) := by
  obtain ⟨A, K1, K2, K3, K4, K5, K6⟩ := K
  have e : A.slots.size = cs.length := K3.trans hlen
  have hat : ∀ (i : Nat) (hi : i < cs.length), A.slots[i]? = some (.int cs[i]) := fun i hi => by rw [K5 i (by omega)]; simp [List.getD_eq_getElem?_getD, hi]
  have hcv : ∀ (i : Nat) (hi : i < cs.length), cv A i = cs[i] := fun i hi => by unfold cv; rw [hat i hi]
  have hty : Typed .char A := fun i v hv => by
    have hi : i < A.slots.size := (Array.getElem?_eq_some_iff.mp hv).1
    have q := K5 i hi
    rw [hv] at q
    rw [Option.some.inj q]
    exact K6 i hi
  refine Back.mono (back hZ hw wi E V C K1 hty S hz (by omega) (by omega) (fun i hi => by rw [hcv i (by omega)]; exact hall _ (List.getElem_mem _)) hfr hlo) (fun P a hp => ⟨hp.1, hp.2.1, hp.2.2.1, by rw [e]; exact hp.2.2.2⟩) (fun P a v B hp hq => ?_)
  obtain ⟨L, ⟨q1, q2, q3, q4, q5, q6, q7, ⟨V', v1, v2, v3, v4, v5⟩, q9⟩, hl, hc, hs⟩ := hq
  refine ⟨L, ⟨q1, q2, q3, q4, q5, q6, q7, ⟨V'.cls, v3, V', v1, rfl, by rw [v4, e, hlen], K4, fun i hi => ?_, fun i hi => ?_⟩, q9⟩, hl, hc, by rw [hs, e]⟩
  · have hi' : i < cs.length := by omega
    rw [v5 i (by omega), hcv i hi']; simp [List.getD_eq_getElem?_getD, hi']
  · have hi' : i < cs.length := by omega
    simp only [List.getD_eq_getElem?_getD, List.getElem?_map, List.getElem?_eq_getElem hi', Option.map_some, Option.getD_some]
    exact fits_lo8 _
end StrChars.Road
namespace StrChars.Road
open Jvm Sem ClassFile Op Lib Jvm.Stand Jvm.Free Jvm.Free.XT
/-- WHAT COMES BACK, in the writer's own shape -/
def QV (Z : State) (x : Addr) (N : Int32) (bs : List Int32) (h : Heap) (n0 : Nat) (v : Option Value) (h' : Heap) (L : List Loc) : Prop := v = none ∧ RoadKit.Fr n0 L ∧ RoadKit.Keep h h' [x] ∧ RoadKit.Exa Z h' x ST ∧ RoadKit.Fld Z h' x ST "coder" "B" (.int 0) ∧
  ∃ (t : Addr) (kb : ClassId), n0 ≤ t ∧ h.size ≤ t ∧ ¬ t = x ∧ RoadKit.Fld Z h' x ST "value" "[B" (.ref t) ∧ RoadKit.Arv Z h' t kb .byte N (bs.map Value.int) (.int 0)
/-- **new String(chars) AT A CALL, FOR THE WRITER**: a char[] of n known ints, each 0 to 255 -/
theorem backV {p : Program} {l : Launch} {e : Env} {R : Room} {s : State} {args : Array Value} {below : List Frame} {len W : Nat} {Z : State} {a0 : Array Value} {h : Heap} (hZ : Z.Warmed39 s.vm) (hw : ∀ d ∈ words, d.before a0 Z = true) {kI : Nat} (wi : (Jvm.Cond.instantiable ST kI).before a0 Z = true)
    {x b : Addr} {kC : ClassId} {cs bs : List Int32} {d v0 c0 : Value} {z N : Int32} {n n0 : Nat} (hx0 : n0 ≤ x) (hh0 : n0 ≤ h.size) (E : RoadKit.Exa Z h x ST) (V : RoadKit.Fld Z h x ST "value" "[B" v0) (C : RoadKit.Fld Z h x ST "coder" "B" c0) (K : RoadKit.Arv Z h b kC .char N (cs.map Value.int) d) (S : RoadKit.Sta Z h ST "COMPACT_STRINGS" "Z" (.int z)) (hz : ¬ z = 0)
    (hn : cs.length = n) (hN : N = Int32.ofNat n) (l0 : 0 < n) (l2 : n ≤ 4000) (hp : ∀ c ∈ cs, ¬ c < 0 ∧ ¬ (255 : Int32) < c) (hb : bs = cs.map (fun c => c.toInt8.toInt32)) (hfr : 4 ≤ R.frames) (hlo : W + 65 ≤ R.locals) :
    Back l R p e below s args (⟨"java/lang/String", "<init>", "([C)V"⟩ : MethodName) len W (fun P a => a = #[.ref x, .ref b] ∧ P.U.heap = h ∧ P.cells + 1 ≤ R.cells ∧ P.slots + n ≤ R.slots)
      (fun P _ v B => ∃ L, QV Z x N bs h n0 v B.U.heap L ∧ B.locs = P.locs ++ L ∧ B.cells = P.cells + 1 ∧ B.slots = P.slots + n) := by
  subst hn hN hb
  refine Back.mono (backArv hZ hw wi E V C K S hz (n32 (by omega)) l0 (by omega) (fun c hc => (hp c hc).2) hfr hlo) (fun P a hp => hp) (fun P a v B hp hq => ?_)
  obtain ⟨L, ⟨q1, q2, q3, q4, q5, q6, q7, ⟨kb, v1, v2⟩, q9⟩, hl, hc, hs⟩ := hq
  exact ⟨L, ⟨q1, fun y hy => by rw [q2 y hy]; exact hx0, q3, q5, q7, h.size, kb, hh0, Nat.le_refl _, Nat.ne_of_gt E.lt, q6, by rw [List.map_map]; exact v2⟩, hl, hc, hs⟩
end StrChars.Road
namespace StrChars
open Jvm Sem ClassFile Op Lib Jvm.Stand Jvm.Free.XT Jvm.Free.ALB Jvm.Free.JM Jvm.Free
open Jvm.Lib.Cold (StaticIs)
def hi8 (x : Int32) : Int32 := lo8 (x >>> ((8 : Int32) &&& 31))
/-- what StringUTF16.getChar makes of two bytes -/
def pairCh (u v : Int32) : Int32 := (((u &&& 255) <<< ((0 : Int32) &&& 31)) ||| ((v &&& 255) <<< ((8 : Int32) &&& 31))).toUInt32.toUInt16.toUInt32.toInt32
theorem lo8_and (x : Int32) : (lo8 x &&& 255).toBitVec.toNat = x.toBitVec.toNat % 256 := by
  have h : (lo8 x).toBitVec = (x.toBitVec.signExtend 8).signExtend 32 := by rw [lo8, Int8.toBitVec_toInt32, Int32.toBitVec_toInt8]
  rw [Int32.toBitVec_and, BitVec.toNat_and, h]
  have e : ((x.toBitVec.signExtend 8).signExtend 32).toNat % 256 = x.toBitVec.toNat % 256 := by
    rw [BitVec.toNat_signExtend]
    have hlt := x.toBitVec.isLt
    simp only [BitVec.toNat_setWidth, BitVec.toNat_signExtend]
    split <;> split <;> omega
  rw [← e]
  exact Nat.and_two_pow_sub_one_eq_mod _ 8
theorem pair_says {c : Int32} (h0 : ¬ c < 0) (h1 : ¬ 65535 < c) : pairCh (lo8 c) (hi8 c) = c := by
  rw [Int32.lt_iff_toInt_lt] at h0 h1
  have e0 : (0 : Int32).toInt = 0 := rfl
  have e1 : (65535 : Int32).toInt = 65535 := rfl
  have hc : c.toInt = c.toBitVec.toNat := by
    have := c.toBitVec.isLt
    have e : c.toInt = c.toBitVec.toInt := rfl
    rw [e] at h0 h1
    rw [e]
    rw [BitVec.toInt_eq_toNat_cond] at h0 h1 ⊢
    split at h0 <;> split <;> omega
  have hn : c.toBitVec.toNat < 65536 := by omega
  have a1 := lo8_and c
  have a2 : (hi8 c &&& 255).toBitVec.toNat = c.toBitVec.toNat / 256 := by
    rw [hi8, lo8_and]
    have e : ((8 : Int32) &&& 31) = 8 := by decide
    rw [e, Int32.toBitVec_shiftRight]
    have e2 : ((8 : Int32).toBitVec.smod 32) = 8#32 := by decide
    rw [e2, BitVec.sshiftRight_eq', BitVec.toNat_sshiftRight_of_msb_false (by rw [BitVec.msb_eq_false_iff_two_mul_lt]; omega)]
    show c.toBitVec.toNat >>> 8 % 256 = _
    rw [Nat.shiftRight_eq_div_pow]
    omega
  unfold pairCh
  apply Int32.toBitVec_inj.mp
  apply BitVec.eq_of_toNat_eq
  have f0 : ((0 : Int32) &&& 31) = 0 := by decide
  have f8 : ((8 : Int32) &&& 31) = 8 := by decide
  rw [f0, f8]
  have g : (((lo8 c &&& 255) <<< (0 : Int32)) ||| ((hi8 c &&& 255) <<< (8 : Int32))).toBitVec.toNat = c.toBitVec.toNat := by
    rw [Int32.toBitVec_or, Int32.toBitVec_shiftLeft, Int32.toBitVec_shiftLeft]
    have s0 : ((0 : Int32).toBitVec.smod 32) = 0#32 := by decide
    have s8 : ((8 : Int32).toBitVec.smod 32) = 8#32 := by decide
    rw [s0, s8, BitVec.toNat_or]
    simp only [BitVec.shiftLeft_eq', BitVec.toNat_shiftLeft, a1, a2]
    show (c.toBitVec.toNat % 256) <<< 0 % 2 ^ 32 ||| (c.toBitVec.toNat / 256) <<< 8 % 2 ^ 32 = _
    rw [Nat.shiftLeft_zero, Nat.mod_eq_of_lt (show c.toBitVec.toNat % 256 < 2 ^ 32 by omega), Nat.mod_eq_of_lt (show (c.toBitVec.toNat / 256) <<< 8 < 2 ^ 32 by rw [Nat.shiftLeft_eq]; omega), Nat.or_comm, ← Nat.shiftLeft_add_eq_or_of_lt (by omega), Nat.shiftLeft_eq]
    omega
  show BitVec.toNat (((((lo8 c &&& 255) <<< (0 : Int32)) ||| ((hi8 c &&& 255) <<< (8 : Int32))).toBitVec.setWidth 16).setWidth 32) = _
  rw [BitVec.toNat_setWidth, BitVec.toNat_setWidth, g]
  omega
end StrChars
namespace StrChars
open Jvm Sem ClassFile Op Lib Jvm.Stand Jvm.Free.XT Jvm.Free.ALB Jvm.Free.JM Jvm.Free
open Jvm.Lib.Cold (StaticIs)
/-- the array's cell V codes the n chars f 0 .. f (n - 1) by the coder cd, as the JDK does: coder 1 just where some char is above 255 -/
def Cod (cd : Int32) (n : Nat) (f : Nat → Int32) (V : Cell) : Prop := (cd = 0 ∧ V.slots.size = n ∧ ∀ j, j < n → V.slots[j]? = some (.int (lo8 (f j))) ∧ ¬ 255 < f j) ∨ (cd = 1 ∧ V.slots.size = 2 * n ∧ (∀ j, j < n → V.slots[2 * j]? = some (.int (lo8 (f j))) ∧ V.slots[2 * j + 1]? = some (.int (hi8 (f j)))) ∧ ∃ j, j < n ∧ 255 < f j)
/-- **x is a String of the n chars f 0 .. f (n - 1)**, Latin-1 or UTF-16; its array at t has the cell V -/
def Txt (x t : Addr) (V : Cell) (cd : Int32) (n : Nat) (f : Nat → Int32) (U : State) : Prop := Exact "java/lang/String" x U ∧ Has x "java/lang/String" "value" "[B" (.ref t) U ∧ Has x "java/lang/String" "coder" "B" (.int cd) U ∧ XT.Arr .byte t V U ∧ Cod cd n f V ∧ ∀ j, j < n → ¬ f j < 0 ∧ ¬ 65535 < f j
theorem Txt.mv {x t : Addr} {V : Cell} {cd : Int32} {n : Nat} {f : Nat → Int32} {U U' : State} (h : Txt x t V cd n f U) (hal : U.vm.Alike U'.vm) (hh : U'.heap = U.heap) : Txt x t V cd n f U' := ⟨h.1.mv hal hh, h.2.1.mv hal hh, h.2.2.1.mv hal hh, h.2.2.2.1.mv hal hh, h.2.2.2.2⟩
end StrChars
namespace StrChars.Road
open Jvm Sem ClassFile Op Lib Jvm.Stand Jvm.Free Jvm.Free.XT
open Jvm.Lib.Cold (StaticIs)
theorem consq {a : Array Value} {s : State} {c : Jvm.Cond} {L : List Jvm.Cond} (h0 : c.before a s = true) (h : ∀ w ∈ L, w.before a s = true) : ∀ w ∈ c :: L, w.before a s = true := fun w hw => (List.mem_cons.mp hw).elim (fun e => e ▸ h0) (h w)
/-- the bytes of the chars cs, low before high -/
def wideBytes : List Int32 → List Value
  | [] => []
  | c :: cs => .int (lo8 c) :: .int (hi8 c) :: wideBytes cs
theorem wide_lo (d : Value) : ∀ (cs : List Int32) (j : Nat), j < cs.length → (wideBytes cs).getD (2 * j) d = .int (lo8 (cs.getD j 0))
  | [], j, h => absurd h (Nat.not_lt_zero j)
  | c :: cs, 0, _ => rfl
  | c :: cs, j + 1, h => by
    have q := wide_lo d cs j (by simpa using h)
    rw [show 2 * (j + 1) = 2 * j + 1 + 1 from by omega]
    simpa [wideBytes] using q
theorem wide_hi (d : Value) : ∀ (cs : List Int32) (j : Nat), j < cs.length → (wideBytes cs).getD (2 * j + 1) d = .int (hi8 (cs.getD j 0))
  | [], j, h => absurd h (Nat.not_lt_zero j)
  | c :: cs, 0, _ => rfl
  | c :: cs, j + 1, h => by
    have q := wide_hi d cs j (by simpa using h)
    rw [show 2 * (j + 1) + 1 = 2 * j + 1 + 1 + 1 from by omega]
    simpa [wideBytes] using q
theorem low_at (d : Value) (cs : List Int32) (j : Nat) (h : j < cs.length) : (cs.map fun c => Value.int (lo8 c)).getD j d = .int (lo8 (cs.getD j 0)) := by
  simp [List.getD_eq_getElem?_getD, h]
/-- an array of N2 bytes vs codes the chars cs by the coder cd -/
def CodA (cs : List Int32) (cd N2 : Int32) (vs : List Value) : Prop := (cd = 0 ∧ N2 = Int32.ofNat cs.length ∧ vs = (cs.map fun c => Value.int (lo8 c)) ∧ ∀ c ∈ cs, ¬ 255 < c) ∨ (cd = 1 ∧ N2 = Int32.ofNat (2 * cs.length) ∧ vs = wideBytes cs ∧ ∃ c ∈ cs, 255 < c)
theorem CodA.cod {cs : List Int32} {cd N2 : Int32} {vs : List Value} {V : Cell} (h : CodA cs cd N2 vs) (hn : 2 * cs.length < 2 ^ 31) (hs : V.slots.size = N2.toNatClampNeg) (hv : RoadKit.Has V vs (.int 0)) : Cod cd cs.length (fun j => cs.getD j 0) V := by
  rcases h with ⟨rfl, rfl, rfl, h⟩ | ⟨rfl, rfl, rfl, c, hc, hw⟩
  · rw [n32 (by omega)] at hs
    exact Or.inl ⟨rfl, hs, fun j hj => ⟨by rw [hv j (by omega), low_at _ _ _ hj], by
      have e : cs.getD j 0 = cs[j] := by simp [List.getD_eq_getElem?_getD, hj]
      show ¬ 255 < cs.getD j 0
      rw [e]; exact h _ (List.getElem_mem _)⟩⟩
  · rw [n32 (by omega)] at hs
    obtain ⟨j, hj, rfl⟩ := List.getElem_of_mem hc
    exact Or.inr ⟨rfl, hs, fun j hj => ⟨by rw [hv _ (by omega), wide_lo _ _ _ hj], by rw [hv _ (by omega), wide_hi _ _ _ hj]⟩, j, hj, by
      have e : cs.getD j 0 = cs[j] := by simp [List.getD_eq_getElem?_getD, hj]
      show 255 < cs.getD j 0
      rw [e]; exact hw⟩
/-- an object of exactly java/lang/String, its two fields found: as the laws ask it -/
theorem strObj {Z U : State} {a0 : Array Value} {kI : Nat} (wi : (Jvm.Cond.instantiable ST kI).before a0 Z = true) (al : Z.vm.Alike U.vm) {x : Addr} {v0 c0 : Value} (E : RoadKit.Exa Z U.heap x ST) (V : RoadKit.Fld Z U.heap x ST "value" "[B" v0) (C : RoadKit.Fld Z U.heap x ST "coder" "B" c0) :
    ∃ (D : Cell) (fV fC : Field), Blank ST x D U ∧ Found ST "value" "[B" fV U ∧ Found ST "coder" "B" fC U ∧ D.slots[fV.slot]? = some v0 ∧ D.slots[fC.slot]? = some c0 ∧ RoadKit.slotOf Z ST "value" "[B" = fV.slot ∧ RoadKit.slotOf Z ST "coder" "B" = fC.slot := by
  obtain ⟨D, cfV, kV, iV, fV, hD, gV, stV, knV, obV, asV, slV⟩ := V
  obtain ⟨D', cfC, kC, iC, fC, hD', gC, stC, -, -, asC, slC⟩ := C
  cases hD.symm.trans hD'
  obtain ⟨D2, kD, e1, e2, e3, e4, e5⟩ := E
  cases hD.symm.trans e1
  obtain ⟨c2, k2, i1, i2, i3, -⟩ := Cond.instantiable_spec wi
  cases e2.symm.trans i1
  cases e3.symm.trans i2
  obtain ⟨kU, u1, u2⟩ := al.2.2 _ _ e3
  exact ⟨D, fV, fC, ⟨hD, ⟨knV, fun q hq => by rw [hq] at obV; cases obV⟩, by rw [al.findClass]; exact e2, kU, u1, by rw [u2]; exact i3, by rw [u2]; exact e5 i3⟩, ⟨SBG.found_only al ⟨cfV, kV, iV, gV⟩, stV⟩, ⟨SBG.found_only al ⟨cfC, kC, iC, gC⟩, stC⟩, slV, slC, by simp [RoadKit.slotOf, gV], by simp [RoadKit.slotOf, gC]⟩
theorem sta_is {Z U : State} (al : Z.vm.Alike U.vm) {C n d : String} {v : Value} (S : RoadKit.Sta Z U.heap C n d v) : StaticIs U C n d v := by
  obtain ⟨cfS, iS, kS, fS, st, cS, t1, t2, t3, t4, t5, t6, t7⟩ := S
  exact StaticIs.there (s := { Z with heap := U.heap }) ⟨cfS, iS, kS, fS, st, cS, t1, t2, t3, t4, t5, (fun q => by rw [q] at t6; cases t6), t7⟩ al rfl
end StrChars.Road
namespace StrChars
open Jvm Sem ClassFile Op Lib Jvm.Stand Jvm.Free.XT Jvm.Free.ALB Jvm.Free.JM Jvm.Free
open Jvm.Lib.Cold (StaticIs)
/-- what place i of a byte[]'s cell holds -/
def yv (A : Cell) (i : Nat) : Int32 := match A.slots[i]? with | some (.int x) => x | _ => 0
theorem yv_get {a : Addr} {A : Cell} {U : State} (h : XT.Arr .byte a A U) (ht : Typed .byte A) {i : Nat} (hi : i < A.slots.size) : A.slots[i]? = some (.int (yv A i)) := by
  have e := Array.getElem?_eq_getElem hi
  have f := ht i _ e
  unfold yv; rw [e]
  generalize A.slots[i] = v at f
  cases v <;> simp [fits] at f ⊢
/-- the two arrays are equal, place for place -/
def EqC (A B : Cell) : Prop := A.slots.size = B.slots.size ∧ ∀ i, i < A.slots.size → yv A i = yv B i
/-- a boolean that says whether p -/
def Says01 (q : Prop) (r : Option Value) (s u : State) : Prop := ∃ v : Int32, r = some (.int v) ∧ u.heap = s.heap ∧ ((v = 1 ∧ q) ∨ (v = 0 ∧ ¬ q))
theorem Says01.mv {q : Prop} : ∀ r (U U' V V' : State), U'.heap = U.heap → V.vm.Alike V'.vm → V'.heap = V.heap → Says01 q r U V → Says01 q r U' V' :=
  fun r U U' V V' h1 _ h2 ⟨v, a, b, c⟩ => ⟨v, a, by rw [h1, h2]; exact b, c⟩
namespace LEq
def yN : MethodName := ⟨"java/lang/StringLatin1", "equals", "([B[B)Z"⟩
abbrev yB : ByteArray := jdk_43_method_13_code
theorem d0 : decode yB 0 = .ok (.aload_n 0, 1) := by decide +kernel
theorem d1 : decode yB 1 = .ok (.arraylength, 1) := by decide +kernel
theorem d2 : decode yB 2 = .ok (.aload_n 1, 1) := by decide +kernel
theorem d3 : decode yB 3 = .ok (.arraylength, 1) := by decide +kernel
theorem d4 : decode yB 4 = .ok (.if_icmp (.ne) 30, 3) := by decide +kernel
theorem d7 : decode yB 7 = .ok (.iconst 0, 1) := by decide +kernel
theorem d8 : decode yB 8 = .ok (.istore_n 2, 1) := by decide +kernel
theorem d9 : decode yB 9 = .ok (.iload_n 2, 1) := by decide +kernel
theorem d10 : decode yB 10 = .ok (.aload_n 0, 1) := by decide +kernel
theorem d11 : decode yB 11 = .ok (.arraylength, 1) := by decide +kernel
theorem d12 : decode yB 12 = .ok (.if_icmp (.ge) 20, 3) := by decide +kernel
theorem d15 : decode yB 15 = .ok (.aload_n 0, 1) := by decide +kernel
theorem d16 : decode yB 16 = .ok (.iload_n 2, 1) := by decide +kernel
theorem d17 : decode yB 17 = .ok (.baload, 1) := by decide +kernel
theorem d18 : decode yB 18 = .ok (.aload_n 1, 1) := by decide +kernel
theorem d19 : decode yB 19 = .ok (.iload_n 2, 1) := by decide +kernel
theorem d20 : decode yB 20 = .ok (.baload, 1) := by decide +kernel
theorem d21 : decode yB 21 = .ok (.if_icmp (.eq) 5, 3) := by decide +kernel
theorem d24 : decode yB 24 = .ok (.iconst 0, 1) := by decide +kernel
theorem d25 : decode yB 25 = .ok (.ireturn, 1) := by decide +kernel
theorem d26 : decode yB 26 = .ok (.iinc 2 1, 3) := by decide +kernel
theorem d29 : decode yB 29 = .ok (.goto (-20), 3) := by decide +kernel
theorem d32 : decode yB 32 = .ok (.iconst 1, 1) := by decide +kernel
theorem d33 : decode yB 33 = .ok (.ireturn, 1) := by decide +kernel
theorem d34 : decode yB 34 = .ok (.iconst 0, 1) := by decide +kernel
theorem d35 : decode yB 35 = .ok (.ireturn, 1) := by decide +kernel
def site : List Cond := []
def tab : Cond := tabOf yN yB 3 (some .boolean) site
def P (a : Addr) (A : Cell) (b : Addr) (B : Cell) (args : Array Value) (s : State) : Prop := args = #[.ref a, .ref b] ∧ XT.Arr .byte a A s ∧ Typed .byte A ∧ XT.Arr .byte b B s ∧ Typed .byte B
/-- whether two byte[] are equal, place for place -/
theorem law (l : Launch) (a : Addr) (A : Cell) (b : Addr) (B : Cell) : Law l yN 2 2 0 0 yB 3 (some .boolean) site (P a A b B) (Says01 (EqC A B)) [] 0 0 := by
  refine Law.of_walk (plainFor_of_name (by decide +kernel)) (by decide +kernel) (by decide +kernel) (by decide) (fun _ _ h => by rw [h.1]; rfl) (fun _ U U' hal hh h => ⟨h.1, h.2.1.mv hal hh, h.2.2.1, h.2.2.2.1.mv hal hh, h.2.2.2.2⟩) (fun r U U' V V' h1 hal h2 h => Says01.mv r U U' V V' h1 hal h2 h) ?_
  intro p e s m args below meth c s₁ X0 hexec hbytes hml hret hlk hnm hown hh0 W hP
  obtain ⟨rfl, hA, tA, hB, tB⟩ := hP
  have a31 := hA.2.2.2
  have b31 := hB.2.2.2
  have hA0 := hA.mv X0.warmed.alike hh0
  have hB0 := hB.mv X0.warmed.alike hh0
  have c1 : Steps p.tables e below (s₁.setTop (entryFrame m #[.ref a, .ref b] 3)) (s₁.setTop (mkF m 0 #[.val (.ref a), .val (.ref b), .unset] [])) := entry rfl
  have c2 : Steps p.tables e below (s₁.setTop (entryFrame m #[.ref a, .ref b] 3)) (s₁.setTop (mkF m 4 #[.val (.ref a), .val (.ref b), .unset] [.int (Int32.ofNat B.slots.size), .int (Int32.ofNat A.slots.size)])) := c1.trans (by
    refine XS.aloadN X0.here hexec rfl (hb hbytes d0) rfl rfl ?_
    refine X0.alen hexec hA0 rfl rfl (hb hbytes d1) ?_
    refine XS.aloadN X0.here hexec rfl (hb hbytes d2) rfl rfl ?_
    refine X0.alen hexec hB0 rfl rfl (hb hbytes d3) ?_
    exact Steps.refl _)
  by_cases hs : A.slots.size = B.slots.size
  · have c3 : Steps p.tables e below (s₁.setTop (entryFrame m #[.ref a, .ref b] 3)) (s₁.setTop (mkF m 9 #[.val (.ref a), .val (.ref b), .val (.int 0)] [])) := c2.trans (by
      refine XS.icmpNo X0.here hexec rfl (hb hbytes d4) rfl (ii_ne_f (by rw [hs])) ?_
      refine iconstV X0.here hexec rfl 0 (hb hbytes d7) (by decide) ?_
      refine XS.istoreN X0.here hexec rfl (hb hbytes d8) rfl rfl ?_
      exact Steps.refl _)
    have loop : ∀ (r i : Nat), i + r = A.slots.size → (∀ j, j < i → yv A j = yv B j) → Steps p.tables e below (s₁.setTop (entryFrame m #[.ref a, .ref b] 3)) (s₁.setTop (mkF m 9 #[.val (.ref a), .val (.ref b), .val (.int (Int32.ofNat i))] [])) → ∃ (pc : Nat) (Ls : Array Slot) (v : Int32), (pc = 25 ∨ pc = 33) ∧ ((v = 1 ∧ EqC A B) ∨ (v = 0 ∧ ¬ EqC A B)) ∧ Steps p.tables e below (s₁.setTop (entryFrame m #[.ref a, .ref b] 3)) (s₁.setTop (mkF m pc Ls [.int v])) := by
      intro r
      induction r with
      | zero =>
        intro i hi he cl
        exact ⟨33, _, 1, Or.inr rfl, Or.inl ⟨rfl, hs, fun j hj => he j (by omega)⟩, cl.trans (by
          refine XS.iloadN X0.here hexec rfl (hb hbytes d9) rfl ?_
          refine XS.aloadN X0.here hexec rfl (hb hbytes d10) rfl rfl ?_
          refine X0.alen hexec hA0 rfl rfl (hb hbytes d11) ?_
          refine XS.icmpYes X0.here hexec rfl (pc0 := 12) rfl (hb hbytes d12) rfl (ii_ge_t (nlt32 (by omega) (by omega))) (by decide) rfl ?_
          refine iconstV X0.here hexec rfl 1 (hb hbytes d32) (by decide) ?_
          exact Steps.refl _)⟩
      | succ r ih =>
        intro i hi he cl
        have c4 : Steps p.tables e below (s₁.setTop (entryFrame m #[.ref a, .ref b] 3)) (s₁.setTop (mkF m 21 #[.val (.ref a), .val (.ref b), .val (.int (Int32.ofNat i))] [.int (yv B i), .int (yv A i)])) := cl.trans (by
          refine XS.iloadN X0.here hexec rfl (hb hbytes d9) rfl ?_
          refine XS.aloadN X0.here hexec rfl (hb hbytes d10) rfl rfl ?_
          refine X0.alen hexec hA0 rfl rfl (hb hbytes d11) ?_
          refine XS.icmpNo X0.here hexec rfl (hb hbytes d12) rfl (ii_ge_f (lt32 (by omega) (by omega))) ?_
          refine XS.aloadN X0.here hexec rfl (hb hbytes d15) rfl rfl ?_
          refine XS.iloadN X0.here hexec rfl (hb hbytes d16) rfl ?_
          refine X0.aget hexec hA0 rfl (yv_get hA tA (i := i) (by omega)) rfl rfl (hb hbytes d17) ?_
          refine XS.aloadN X0.here hexec rfl (hb hbytes d18) rfl rfl ?_
          refine XS.iloadN X0.here hexec rfl (hb hbytes d19) rfl ?_
          refine X0.aget hexec hB0 rfl (yv_get hB tB (i := i) (by omega)) rfl rfl (hb hbytes d20) ?_
          exact Steps.refl _)
        by_cases hv : yv A i = yv B i
        · have c5 : Steps p.tables e below (s₁.setTop (entryFrame m #[.ref a, .ref b] 3)) (s₁.setTop (mkF m 9 #[.val (.ref a), .val (.ref b), .val (.int (Int32.ofNat i + 1))] [])) := c4.trans (by
            refine XS.icmpYes X0.here hexec rfl (pc0 := 21) rfl (hb hbytes d21) rfl (ii_eq_t hv) (by decide) rfl ?_
            refine iincV X0.here hexec rfl 1 (hb hbytes d26) (by decide) rfl rfl ?_
            refine XS.goto X0.here hexec rfl (pc0 := 29) rfl (hb hbytes d29) (by decide) rfl ?_
            exact Steps.refl _)
          rw [succ32] at c5
          exact ih (i + 1) (by omega) (fun j hj => by
            by_cases e : j = i
            · rw [e]; exact hv
            · exact he j (by omega)) c5
        · exact ⟨25, _, 0, Or.inl rfl, Or.inr ⟨rfl, fun q => hv (q.2 i (by omega))⟩, c4.trans (by
            refine XS.icmpNo X0.here hexec rfl (hb hbytes d21) rfl (ii_eq_f hv) ?_
            refine iconstV X0.here hexec rfl 0 (hb hbytes d24) (by decide) ?_
            exact Steps.refl _)⟩
    obtain ⟨pc, Ls, v, hpc, hv, cz⟩ := loop A.slots.size 0 (by omega) (fun j hj => absurd hj (Nat.not_lt_zero j)) c3
    have nv : narrow .boolean (.int v) = .int v := by rcases hv with ⟨rfl, -⟩ | ⟨rfl, -⟩ <;> rfl
    rcases hpc with rfl | rfl
    · exact ⟨s₁, some (.int v), _, _, _, X0, rfl, rfl, rfl, (fun h => by cases h), ⟨v, rfl, hh0, hv⟩, fun fs hl => cz.trans (X0.ireturnOut hexec hret nv (Or.inr (Or.inl rfl)) (hb hbytes d25) hl)⟩
    · exact ⟨s₁, some (.int v), _, _, _, X0, rfl, rfl, rfl, (fun h => by cases h), ⟨v, rfl, hh0, hv⟩, fun fs hl => cz.trans (X0.ireturnOut hexec hret nv (Or.inr (Or.inl rfl)) (hb hbytes d33) hl)⟩
  · have c3 : Steps p.tables e below (s₁.setTop (entryFrame m #[.ref a, .ref b] 3)) (s₁.setTop (mkF m 35 #[.val (.ref a), .val (.ref b), .unset] [.int 0])) := c2.trans (by
      refine XS.icmpYes X0.here hexec rfl (pc0 := 4) rfl (hb hbytes d4) rfl (ii_ne_t (ne32 a31 b31 hs)) (by decide) rfl ?_
      refine iconstV X0.here hexec rfl 0 (hb hbytes d34) (by decide) ?_
      exact Steps.refl _)
    exact ⟨s₁, some (.int 0), _, _, _, X0, rfl, rfl, rfl, (fun h => by cases h), ⟨0, rfl, hh0, Or.inr ⟨rfl, fun q => hs q.1⟩⟩, fun fs hl => c3.trans (X0.ireturnOut hexec hret rfl (Or.inr (Or.inl rfl)) (hb hbytes d35) hl)⟩
end LEq
theorem Cod.ty {cd : Int32} {n : Nat} {f : Nat → Int32} {V : Cell} (h : Cod cd n f V) : Typed .byte V := fun i v hv => by
  have hi : i < V.slots.size := (Array.getElem?_eq_some_iff.mp hv).1
  rcases h with ⟨-, k1, k2⟩ | ⟨-, k1, k2, -⟩
  · rw [(k2 i (by omega)).1] at hv; cases hv; exact fits_lo8 _
  · rcases Nat.mod_two_eq_zero_or_one i with e | e
    · obtain ⟨j, rfl⟩ : ∃ j, i = 2 * j := ⟨i / 2, by omega⟩
      rw [(k2 j (by omega)).1] at hv; cases hv; exact fits_lo8 _
    · obtain ⟨j, rfl⟩ : ∃ j, i = 2 * j + 1 := ⟨i / 2, by omega⟩
      rw [(k2 j (by omega)).2] at hv; cases hv; exact fits_lo8 _
/-- the same text -/
def SameT (n : Nat) (f : Nat → Int32) (k : Nat) (g : Nat → Int32) : Prop := n = k ∧ ∀ j, j < n → f j = g j
theorem lo8_inj {x y : Int32} (h0 : ¬ x < 0) (h1 : ¬ 255 < x) (k0 : ¬ y < 0) (k1 : ¬ 255 < y) (h : lo8 x = lo8 y) : x = y := by
  rw [← lo8_mask h0 h1, ← lo8_mask k0 k1, h]
/-- arrays coded by one coder are equal just where the texts are -/
theorem Cod.eqv {cd : Int32} {n k : Nat} {f g : Nat → Int32} {V V' : Cell} (h : Cod cd n f V) (h' : Cod cd k g V') (hf : ∀ j, j < n → ¬ f j < 0 ∧ ¬ 65535 < f j) (hg : ∀ j, j < k → ¬ g j < 0 ∧ ¬ 65535 < g j) : EqC V V' ↔ SameT n f k g := by
  have yvv : ∀ {W : Cell} {i : Nat} {x : Int32}, W.slots[i]? = some (.int x) → yv W i = x := fun q => by unfold yv; rw [q]
  rcases h with ⟨rfl, k1, k2⟩ | ⟨rfl, k1, k2, -⟩
  · rcases h' with ⟨-, m1, m2⟩ | ⟨e, -⟩
    · constructor
      · rintro ⟨e1, e2⟩
        refine ⟨by omega, fun j hj => ?_⟩
        have q := e2 j (by omega)
        rw [yvv (k2 j hj).1, yvv (m2 j (by omega)).1] at q
        exact lo8_inj (hf j hj).1 (k2 j hj).2 (hg j (by omega)).1 (m2 j (by omega)).2 q
      · rintro ⟨rfl, e2⟩
        refine ⟨by omega, fun j hj => ?_⟩
        rw [yvv (k2 j (by omega)).1, yvv (m2 j (by omega)).1, e2 j (by omega)]
    · exact absurd e (by decide)
  · rcases h' with ⟨e, -⟩ | ⟨-, m1, m2, -⟩
    · exact absurd e (by decide)
    · constructor
      · rintro ⟨e1, e2⟩
        refine ⟨by omega, fun j hj => ?_⟩
        have q1 := e2 (2 * j) (by omega)
        have q2 := e2 (2 * j + 1) (by omega)
        rw [yvv (k2 j hj).1, yvv (m2 j (by omega)).1] at q1
        rw [yvv (k2 j hj).2, yvv (m2 j (by omega)).2] at q2
        rw [← pair_says (hf j hj).1 (hf j hj).2, ← pair_says (hg j (by omega)).1 (hg j (by omega)).2, q1, q2]
      · rintro ⟨rfl, e2⟩
        refine ⟨by omega, fun i hi => ?_⟩
        rcases Nat.mod_two_eq_zero_or_one i with e | e
        · obtain ⟨j, rfl⟩ : ∃ j, i = 2 * j := ⟨i / 2, by omega⟩
          rw [yvv (k2 j (by omega)).1, yvv (m2 j (by omega)).1, e2 j (by omega)]
        · obtain ⟨j, rfl⟩ : ∃ j, i = 2 * j + 1 := ⟨i / 2, by omega⟩
          rw [yvv (k2 j (by omega)).2, yvv (m2 j (by omega)).2, e2 j (by omega)]
/-- two codings differ: so do the texts -/
theorem Cod.dif {cd cd' : Int32} {n k : Nat} {f g : Nat → Int32} {V V' : Cell} (h : Cod cd n f V) (h' : Cod cd' k g V') (hne : ¬ cd = cd') : ¬ SameT n f k g := by
  rintro ⟨rfl, e⟩
  rcases h with ⟨rfl, -, k2⟩ | ⟨rfl, -, -, j, hj, hw⟩
  · rcases h' with ⟨rfl, -⟩ | ⟨-, -, -, j, hj, hw⟩
    · exact hne rfl
    · exact (k2 j hj).2 (by rw [e j hj]; exact hw)
  · rcases h' with ⟨-, -, m2⟩ | ⟨rfl, -⟩
    · exact (m2 j hj).2 (by rw [← e j hj]; exact hw)
    · exact hne rfl
/-- an object of exactly C is an instance of C -/
theorem cinst {p : Program} {l : Launch} {e : Env} {R : Room} {s : State} {m : MethodId} {args : Array Value} {below : List Frame} {meth : Method} {c : Code} {T : State} {locs : List Loc} {cells slots : Nat} (X : Stand p l e R s m args below meth c T locs cells slots) (hexec : p.tables.exec = Jvm.exec) {own C : String} {index : Nat} (hown : s.vm.findClass own = some m.cls) (hlink : (Cond.classLink own index C).before args s = true) {a : Addr} (hE : Exact C a T)
    {g : JFrame} (hg : g.method = m) {rest : List Value} (hstack : g.stack = .ref a :: rest) (hdg : decode c.code g.pc = .ok (.instanceof index, 3)) :
    ∃ T', Stand p l e R s m args below meth c T' locs cells slots ∧ T'.heap = T.heap ∧ ∀ target, Steps p.tables e below (T'.setTop { g with pc := g.pc + 3, stack := .int 1 :: rest }) target → Steps p.tables e below (T.setTop g) target := by
  obtain ⟨cB, h1, D, h2, h3, h4⟩ := hE
  have h1' : s.vm.findClass C = some cB := by rw [← X.warmed.alike.findClass]; exact h1
  obtain ⟨vm', X', st⟩ := X.instanceofYes hexec hown hlink h2 h4 h1' (by rw [h3]; exact Jvm.Free.SB.assignable_self _ _) hg hstack hdg
  exact ⟨_, X', rfl, st⟩
theorem cself {p : Program} {l : Launch} {e : Env} {R : Room} {s : State} {m : MethodId} {args : Array Value} {below : List Frame} {meth : Method} {c : Code} {T : State} {locs : List Loc} {cells slots : Nat} (X : Stand p l e R s m args below meth c T locs cells slots) (hexec : p.tables.exec = Jvm.exec) {own C : String} {index : Nat} (hown : s.vm.findClass own = some m.cls) (hlink : (Cond.classLink own index C).before args s = true) {a : Addr} (hE : Exact C a T)
    {g : JFrame} (hg : g.method = m) {rest : List Value} (hstack : g.stack = .ref a :: rest) (hdg : decode c.code g.pc = .ok (.checkcast index, 3)) :
    ∃ T', Stand p l e R s m args below meth c T' locs cells slots ∧ T'.heap = T.heap ∧ ∀ target, Steps p.tables e below (T'.setTop { g with pc := g.pc + 3, stack := .ref a :: rest }) target → Steps p.tables e below (T.setTop g) target := by
  obtain ⟨cB, h1, D, h2, h3, h4⟩ := hE
  have h1' : s.vm.findClass C = some cB := by rw [← X.warmed.alike.findClass]; exact h1
  obtain ⟨vm', X', st⟩ := X.checkcastYes hexec hown hlink h2 h4 h1' (by rw [h3]; exact Jvm.Free.SB.assignable_self _ _) hg hstack hdg
  exact ⟨_, X', rfl, fun t h => st t (by rw [← hstack] at h; exact h)⟩
namespace SEq
def yN : MethodName := ⟨"java/lang/String", "equals", "(Ljava/lang/Object;)Z"⟩
abbrev yB : ByteArray := jdk_42_method_66_code
theorem d0 : decode yB 0 = .ok (.aload_n 0, 1) := by decide +kernel
theorem d1 : decode yB 1 = .ok (.aload_n 1, 1) := by decide +kernel
theorem d2 : decode yB 2 = .ok (.if_acmp (.ne) 5, 3) := by decide +kernel
theorem d5 : decode yB 5 = .ok (.iconst 1, 1) := by decide +kernel
theorem d6 : decode yB 6 = .ok (.ireturn, 1) := by decide +kernel
theorem d7 : decode yB 7 = .ok (.aload_n 1, 1) := by decide +kernel
theorem d8 : decode yB 8 = .ok (.instanceof 10, 3) := by decide +kernel
theorem d11 : decode yB 11 = .ok (.ifCond (.eq) 43, 3) := by decide +kernel
theorem d14 : decode yB 14 = .ok (.aload_n 1, 1) := by decide +kernel
theorem d15 : decode yB 15 = .ok (.checkcast 10, 3) := by decide +kernel
theorem d18 : decode yB 18 = .ok (.astore_n 2, 1) := by decide +kernel
theorem d19 : decode yB 19 = .ok (.getstatic 38, 3) := by decide +kernel
theorem d22 : decode yB 22 = .ok (.ifCond (.eq) 14, 3) := by decide +kernel
theorem d25 : decode yB 25 = .ok (.aload_n 0, 1) := by decide +kernel
theorem d26 : decode yB 26 = .ok (.getfield 15, 3) := by decide +kernel
theorem d29 : decode yB 29 = .ok (.aload_n 2, 1) := by decide +kernel
theorem d30 : decode yB 30 = .ok (.getfield 15, 3) := by decide +kernel
theorem d33 : decode yB 33 = .ok (.if_icmp (.ne) 21, 3) := by decide +kernel
theorem d36 : decode yB 36 = .ok (.aload_n 0, 1) := by decide +kernel
theorem d37 : decode yB 37 = .ok (.getfield 9, 3) := by decide +kernel
theorem d40 : decode yB 40 = .ok (.aload_n 2, 1) := by decide +kernel
theorem d41 : decode yB 41 = .ok (.getfield 9, 3) := by decide +kernel
theorem d44 : decode yB 44 = .ok (.invokestatic 541, 3) := by decide +kernel
theorem d47 : decode yB 47 = .ok (.ifCond (.eq) 7, 3) := by decide +kernel
theorem d50 : decode yB 50 = .ok (.iconst 1, 1) := by decide +kernel
theorem d51 : decode yB 51 = .ok (.goto 4, 3) := by decide +kernel
theorem d54 : decode yB 54 = .ok (.iconst 0, 1) := by decide +kernel
theorem d55 : decode yB 55 = .ok (.ireturn, 1) := by decide +kernel
def site : List Cond := [.classLink "java/lang/String" 10 "java/lang/String", .fieldLink "java/lang/String" 38 "java/lang/String" "COMPACT_STRINGS" "Z", .fieldLink "java/lang/String" 15 "java/lang/String" "coder" "B", .fieldLink "java/lang/String" 9 "java/lang/String" "value" "[B", LEq.tab] ++ staticW "java/lang/String" 541 LEq.yN
def tab : Cond := tabOf yN yB 3 (some .boolean) site
def P (x t : Addr) (V : Cell) (cd : Int32) (n : Nat) (f : Nat → Int32) (y t' : Addr) (V' : Cell) (cd' : Int32) (k : Nat) (g : Nat → Int32) (z : Int32) (args : Array Value) (s : State) : Prop := args = #[.ref x, .ref y] ∧ Txt x t V cd n f s ∧ Txt y t' V' cd' k g s ∧ StaticIs s "java/lang/String" "COMPACT_STRINGS" "Z" (.int z) ∧ ¬ z = 0
/-- equals(Object) of two Strings: whether the texts are the same -/
theorem law (l : Launch) (x t : Addr) (V : Cell) (cd : Int32) (n : Nat) (f : Nat → Int32) (y t' : Addr) (V' : Cell) (cd' : Int32) (k : Nat) (g : Nat → Int32) (z : Int32) : Law l yN 2 1 1 14 yB 3 (some .boolean) site (P x t V cd n f y t' V' cd' k g z) (Says01 (SameT n f k g)) [] 0 0 := by
  refine Law.of_walk (plainFor_of_name (by decide +kernel)) (by decide +kernel) (by decide +kernel) (by decide) (fun _ _ h => by rw [h.1]; rfl) (fun _ U U' hal hh h => ⟨h.1, h.2.1.mv hal hh, h.2.2.1.mv hal hh, h.2.2.2.1.there hal hh, h.2.2.2.2⟩) (fun r U U' V V' h1 hal h2 h => Says01.mv r U U' V V' h1 hal h2 h) ?_
  intro p e s m args below meth c s₁ X0 hexec hbytes hml hret hlk hnm hown hh0 W hP
  obtain ⟨rfl, hx, hy, s1, hz⟩ := hP
  have c1 : Steps p.tables e below (s₁.setTop (entryFrame m #[.ref x, .ref y] 3)) (s₁.setTop (mkF m 2 #[.val (.ref x), .val (.ref y), .unset] [.ref y, .ref x])) := Steps.trans (entry rfl) (by
    show Steps p.tables e below (s₁.setTop (mkF m 0 #[.val (.ref x), .val (.ref y), .unset] [])) _
    refine XS.aloadN X0.here hexec rfl (hb hbytes d0) rfl rfl ?_
    refine XS.aloadN X0.here hexec rfl (hb hbytes d1) rfl rfl ?_
    exact Steps.refl _)
  by_cases hxy : x = y
  · have c2 : Steps p.tables e below (s₁.setTop (entryFrame m #[.ref x, .ref y] 3)) (s₁.setTop (mkF m 6 #[.val (.ref x), .val (.ref y), .unset] [.int 1])) := c1.trans (by
      refine acmpNo X0.here hexec rfl (hb hbytes d2) rfl rfl rfl (by simp [acmp, hxy]) ?_
      refine iconstV X0.here hexec rfl 1 (hb hbytes d5) (by decide) ?_
      exact Steps.refl _)
    subst hxy
    have ec : cd = cd' := by
      obtain ⟨D, fd, a1, a2, a3⟩ := hx.2.2.1
      obtain ⟨D', fd', b1, b2, b3⟩ := hy.2.2.1
      cases a1.symm.trans b1
      obtain ⟨q1, q2, q3, q4⟩ := a2.1
      obtain ⟨r1, r2, r3, r4⟩ := b2.1
      cases q4.symm.trans r4
      cases a3.symm.trans b3; rfl
    have et : t = t' := by
      obtain ⟨D, fd, a1, a2, a3⟩ := hx.2.1
      obtain ⟨D', fd', b1, b2, b3⟩ := hy.2.1
      cases a1.symm.trans b1
      obtain ⟨q1, q2, q3, q4⟩ := a2.1
      obtain ⟨r1, r2, r3, r4⟩ := b2.1
      cases q4.symm.trans r4
      cases a3.symm.trans b3; rfl
    subst ec et
    have ev : V = V' := by cases hx.2.2.2.1.1.symm.trans hy.2.2.2.1.1; rfl
    subst ev
    have hs : SameT n f k g := (Cod.eqv hx.2.2.2.2.1 hy.2.2.2.2.1 hx.2.2.2.2.2 hy.2.2.2.2.2).mp ⟨rfl, fun _ _ => rfl⟩
    exact ⟨s₁, some (.int 1), _, _, _, X0, rfl, rfl, rfl, (fun h => by cases h), ⟨1, rfl, hh0, Or.inl ⟨rfl, hs⟩⟩, fun fs hl => c2.trans (X0.ireturnOut hexec hret rfl (Or.inr (Or.inl rfl)) (hb hbytes d6) hl)⟩
  · have c2 : Steps p.tables e below (s₁.setTop (entryFrame m #[.ref x, .ref y] 3)) (s₁.setTop (mkF m 8 #[.val (.ref x), .val (.ref y), .unset] [.ref y])) := c1.trans (by
      refine acmpYes X0.here hexec rfl (pc0 := 2) rfl (hb hbytes d2) rfl rfl rfl (by simp [acmp, hxy]) (by decide) rfl ?_
      refine XS.aloadN X0.here hexec rfl (hb hbytes d7) rfl rfl ?_
      exact Steps.refl _)
    obtain ⟨T3, X3, q3, st3⟩ := cinst X0 hexec hown (wk W (.classLink "java/lang/String" 10 "java/lang/String")) (hy.mv X0.warmed.alike hh0).1 (g := (mkF m 8 #[.val (.ref x), .val (.ref y), .unset] [.ref y])) rfl (rest := []) rfl (hb hbytes d8)
    have hh3 := q3.trans hh0
    have c4 : Steps p.tables e below (s₁.setTop (entryFrame m #[.ref x, .ref y] 3)) (T3.setTop (mkF m 15 #[.val (.ref x), .val (.ref y), .unset] [.ref y])) := (c2.trans (st3 _ (Steps.refl _))).trans (by
      refine XS.ifNo X3.here hexec rfl (hb hbytes d11) rfl (i0_eq_f (by decide)) ?_
      refine XS.aloadN X3.here hexec rfl (hb hbytes d14) rfl rfl ?_
      exact Steps.refl _)
    obtain ⟨T5, X5, q5, st5⟩ := cself X3 hexec hown (wk W (.classLink "java/lang/String" 10 "java/lang/String")) (hy.mv X3.warmed.alike hh3).1 (g := (mkF m 15 #[.val (.ref x), .val (.ref y), .unset] [.ref y])) rfl (rest := []) rfl (hb hbytes d15)
    have hh5 := q5.trans hh3
    have c6 : Steps p.tables e below (s₁.setTop (entryFrame m #[.ref x, .ref y] 3)) (T5.setTop (mkF m 19 #[.val (.ref x), .val (.ref y), .val (.ref y)] [])) := (c4.trans (st5 _ (Steps.refl _))).trans (by
      refine XS.astoreN X5.here hexec rfl (hb hbytes d18) rfl rfl rfl ?_
      exact Steps.refl _)
    obtain ⟨T7, X7, q7, st7⟩ := X5.sget hexec hown (wk W (.fieldLink "java/lang/String" 38 "java/lang/String" "COMPACT_STRINGS" "Z")) s1 (fun _ _ h => by rw [hh5]; exact h) (g := (mkF m 19 #[.val (.ref x), .val (.ref y), .val (.ref y)] [])) rfl (hb hbytes d19)
    have hh7 := q7.trans hh5
    have c8 : Steps p.tables e below (s₁.setTop (entryFrame m #[.ref x, .ref y] 3)) (T7.setTop (mkF m 26 #[.val (.ref x), .val (.ref y), .val (.ref y)] [.ref x])) := (c6.trans (st7 _ (Steps.refl _))).trans (by
      refine XS.ifNo X7.here hexec rfl (hb hbytes d22) rfl (i0_eq_f hz) ?_
      refine XS.aloadN X7.here hexec rfl (hb hbytes d25) rfl rfl ?_
      exact Steps.refl _)
    obtain ⟨T9, X9, q9, st9⟩ := X7.hget hexec hown (wk W (.fieldLink "java/lang/String" 15 "java/lang/String" "coder" "B")) (hx.mv X7.warmed.alike hh7).2.2.1 (g := (mkF m 26 #[.val (.ref x), .val (.ref y), .val (.ref y)] [.ref x])) rfl (rest := []) rfl (hb hbytes d26)
    have hh9 := q9.trans hh7
    have c10 : Steps p.tables e below (s₁.setTop (entryFrame m #[.ref x, .ref y] 3)) (T9.setTop (mkF m 30 #[.val (.ref x), .val (.ref y), .val (.ref y)] [.ref y, .int cd])) := (c8.trans (st9 _ (Steps.refl _))).trans (by
      refine XS.aloadN X9.here hexec rfl (hb hbytes d29) rfl rfl ?_
      exact Steps.refl _)
    obtain ⟨T11, X11, q11, st11⟩ := X9.hget hexec hown (wk W (.fieldLink "java/lang/String" 15 "java/lang/String" "coder" "B")) (hy.mv X9.warmed.alike hh9).2.2.1 (g := (mkF m 30 #[.val (.ref x), .val (.ref y), .val (.ref y)] [.ref y, .int cd])) rfl (rest := [.int cd]) rfl (hb hbytes d30)
    have hh11 := q11.trans hh9
    have c12 : Steps p.tables e below (s₁.setTop (entryFrame m #[.ref x, .ref y] 3)) (T11.setTop (mkF m 33 #[.val (.ref x), .val (.ref y), .val (.ref y)] [.int cd', .int cd])) := c10.trans (st11 _ (Steps.refl _))
    by_cases hcd : cd = cd'
    · subst hcd
      have c13 : Steps p.tables e below (s₁.setTop (entryFrame m #[.ref x, .ref y] 3)) (T11.setTop (mkF m 37 #[.val (.ref x), .val (.ref y), .val (.ref y)] [.ref x])) := c12.trans (by
        refine XS.icmpNo X11.here hexec rfl (hb hbytes d33) rfl (ii_ne_f rfl) ?_
        refine XS.aloadN X11.here hexec rfl (hb hbytes d36) rfl rfl ?_
        exact Steps.refl _)
      obtain ⟨T14, X14, q14, st14⟩ := X11.hget hexec hown (wk W (.fieldLink "java/lang/String" 9 "java/lang/String" "value" "[B")) (hx.mv X11.warmed.alike hh11).2.1 (g := (mkF m 37 #[.val (.ref x), .val (.ref y), .val (.ref y)] [.ref x])) rfl (rest := []) rfl (hb hbytes d37)
      have hh14 := q14.trans hh11
      have c15 : Steps p.tables e below (s₁.setTop (entryFrame m #[.ref x, .ref y] 3)) (T14.setTop (mkF m 41 #[.val (.ref x), .val (.ref y), .val (.ref y)] [.ref y, .ref t])) := (c13.trans (st14 _ (Steps.refl _))).trans (by
        refine XS.aloadN X14.here hexec rfl (hb hbytes d40) rfl rfl ?_
        exact Steps.refl _)
      obtain ⟨T16, X16, q16, st16⟩ := X14.hget hexec hown (wk W (.fieldLink "java/lang/String" 9 "java/lang/String" "value" "[B")) (hy.mv X14.warmed.alike hh14).2.1 (g := (mkF m 41 #[.val (.ref x), .val (.ref y), .val (.ref y)] [.ref y, .ref t])) rfl (rest := [.ref t]) rfl (hb hbytes d41)
      have hh16 := q16.trans hh14
      have c17 : Steps p.tables e below (s₁.setTop (entryFrame m #[.ref x, .ref y] 3)) (T16.setTop (mkF m 44 #[.val (.ref x), .val (.ref y), .val (.ref y)] [.ref t', .ref t])) := c15.trans (st16 _ (Steps.refl _))
      obtain ⟨v18, T18, X18, E18, g18⟩ := X16.callS hexec (LEq.law l t V t' V') hown (wks W (staticW "java/lang/String" 541 LEq.yN)) (wk W LEq.tab) (W := 0) (Nat.le_of_ble_eq_true rfl) (Nat.le_of_ble_eq_true rfl) (Nat.le_refl _) (Nat.le_refl _) (g := (mkF m 44 #[.val (.ref x), .val (.ref y), .val (.ref y)] [.ref t', .ref t])) rfl (by rw [hml]; rfl) c17 (argsL := [.ref t, .ref t']) (rest := []) rfl rfl (by show 2 * 0 + 0 ≤ _; decide) (hb hbytes d44) (⟨rfl, hx.2.2.2.1.mv X16.warmed.alike hh16, hx.2.2.2.2.1.ty, hy.2.2.2.1.mv X16.warmed.alike hh16, hy.2.2.2.2.1.ty⟩)
      obtain ⟨v, rfl, q18, hv⟩ := E18
      have iff := Cod.eqv hx.2.2.2.2.1 hy.2.2.2.2.1 hx.2.2.2.2.2 hy.2.2.2.2.2
      rcases hv with ⟨rfl, he⟩ | ⟨rfl, he⟩
      · have c19 : Steps p.tables e below (s₁.setTop (entryFrame m #[.ref x, .ref y] 3)) (T18.setTop (mkF m 55 #[.val (.ref x), .val (.ref y), .val (.ref y)] [.int 1])) := Steps.trans g18 (by
          refine XS.ifNo X18.here hexec rfl (hb hbytes d47) rfl (i0_eq_f (by decide)) ?_
          refine iconstV X18.here hexec rfl 1 (hb hbytes d50) (by decide) ?_
          refine XS.goto X18.here hexec rfl (pc0 := 51) rfl (hb hbytes d51) (by decide) rfl ?_
          exact Steps.refl _)
        exact ⟨T18, some (.int 1), _, _, _, X18, rfl, rfl, rfl, (fun h => by cases h), ⟨1, rfl, q18.trans hh16, Or.inl ⟨rfl, iff.mp he⟩⟩, fun fs hl => c19.trans (X18.ireturnOut hexec hret rfl (Or.inr (Or.inl rfl)) (hb hbytes d55) hl)⟩
      · have c19 : Steps p.tables e below (s₁.setTop (entryFrame m #[.ref x, .ref y] 3)) (T18.setTop (mkF m 55 #[.val (.ref x), .val (.ref y), .val (.ref y)] [.int 0])) := Steps.trans g18 (by
          refine XS.ifYes X18.here hexec rfl (pc0 := 47) rfl (hb hbytes d47) rfl (i0_eq_t rfl) (by decide) rfl ?_
          refine iconstV X18.here hexec rfl 0 (hb hbytes d54) (by decide) ?_
          exact Steps.refl _)
        exact ⟨T18, some (.int 0), _, _, _, X18, rfl, rfl, rfl, (fun h => by cases h), ⟨0, rfl, q18.trans hh16, Or.inr ⟨rfl, fun q => he (iff.mpr q)⟩⟩, fun fs hl => c19.trans (X18.ireturnOut hexec hret rfl (Or.inr (Or.inl rfl)) (hb hbytes d55) hl)⟩
    · have c13 : Steps p.tables e below (s₁.setTop (entryFrame m #[.ref x, .ref y] 3)) (T11.setTop (mkF m 55 #[.val (.ref x), .val (.ref y), .val (.ref y)] [.int 0])) := c12.trans (by
        refine XS.icmpYes X11.here hexec rfl (pc0 := 33) rfl (hb hbytes d33) rfl (ii_ne_t hcd) (by decide) rfl ?_
        refine iconstV X11.here hexec rfl 0 (hb hbytes d54) (by decide) ?_
        exact Steps.refl _)
      exact ⟨T11, some (.int 0), _, _, _, X11, rfl, rfl, rfl, (fun h => by cases h), ⟨0, rfl, hh11, Or.inr ⟨rfl, Cod.dif hx.2.2.2.2.1 hy.2.2.2.2.1 hcd⟩⟩, fun fs hl => c13.trans (X11.ireturnOut hexec hret rfl (Or.inr (Or.inl rfl)) (hb hbytes d55) hl)⟩
theorem pays {l : Launch} {R : Room} {p : Program} {e : Env} {below : List Frame} {s : State} {sargs : Array Value} {len W : Nat} (x t : Addr) (V : Cell) (cd : Int32) (n : Nat) (f : Nat → Int32) (y t' : Addr) (V' : Cell) (cd' : Int32) (k : Nat) (g : Nat → Int32) (z : Int32) (htab : tab.before sargs s = true) (hfr : 2 ≤ R.frames) (hlo : W + 28 ≤ R.locals) :
    Back l R p e below s sargs yN len W (fun A₁ a₁ => A₁.cells + 0 ≤ R.cells ∧ A₁.slots + 0 ≤ R.slots ∧ P x t V cd n f y t' V' cd' k g z a₁ A₁.U) (fun A₁ _ v₁ B₁ => Says01 (SameT n f k g) v₁ A₁.U B₁.U ∧ B₁.locs = A₁.locs ++ [] ∧ B₁.cells = A₁.cells + 0 ∧ B₁.slots = A₁.slots + 0) :=
  (law l x t V cd n f y t' V' cd' k g z).pays htab hfr (by omega)
end SEq
end StrChars
namespace StrChars.Road
open Jvm Sem ClassFile Op Lib Jvm.Stand Jvm.Free Jvm.Free.XT
open Jvm.Lib.Cold (StaticIs)
/-- the words of String.equals(Object) -/
abbrev wordsEq : List Jvm.Cond := [.code SEq.yN SEq.yB 3 (some .boolean), .initialized ST, .classLink ST 10 ST, .fieldLink ST 38 ST "COMPACT_STRINGS" "Z", .fieldLink ST 15 ST "coder" "B", .fieldLink ST 9 ST "value" "[B", .methodLink ST 541 LEq.yN, .static LEq.yN, .code LEq.yN LEq.yB 3 (some .boolean), .initialized "java/lang/StringLatin1"]
theorem tabEq_of {a : Array Value} {s : State} (h : ∀ w ∈ wordsEq, w.before a s = true) : SEq.tab.before a s = true := by
  have hl : LEq.tab.before a s = true := unparts (wk h (.code LEq.yN LEq.yB 3 (some .boolean))) (wks h (.initialized LEq.yN.cls :: LEq.site))
  have q := consq hl h
  exact unparts (wk q (.code SEq.yN SEq.yB 3 (some .boolean))) (wks q (.initialized SEq.yN.cls :: SEq.site))
theorem movedEq {Z s : State} {a0 args : Array Value} (hZ : Z.Warmed39 s.vm) (hw : ∀ d ∈ wordsEq, d.before a0 Z = true) : ∀ d ∈ wordsEq, d.before args s = true := fun d hd => by
  have t : ∀ d ∈ wordsEq, (d.onTables && d.keepsFace) = true := by decide +kernel
  exact RoadKit.mv hZ (hw d hd) (t d hd)
/-- the road's facts of a String, as the laws ask it -/
theorem txt_of {Z U : State} {a0 : Array Value} {kI : Nat} (wi : (Jvm.Cond.instantiable ST kI).before a0 Z = true) (al : Z.vm.Alike U.vm) {x t : Addr} {kb : ClassId} {cs : List Int32} {cd N2 : Int32} {vs : List Value} (E : RoadKit.Exa Z U.heap x ST) (V : RoadKit.Fld Z U.heap x ST "value" "[B" (.ref t)) (C : RoadKit.Fld Z U.heap x ST "coder" "B" (.int cd)) (K : RoadKit.Arv Z U.heap t kb .byte N2 vs (.int 0)) (hc : CodA cs cd N2 vs) (hb : ∀ c ∈ cs, ¬ c < 0 ∧ ¬ (65535 : Int32) < c) (l2 : cs.length ≤ 4000) :
    ∃ A, Txt x t A cd cs.length (fun j => cs.getD j 0) U := by
  obtain ⟨A, K1, K2, K3, K4, K5, K6⟩ := K
  have hcod := hc.cod (by omega) K3 K5
  obtain ⟨D, fV, fC, hB, F1, F2, g1, g2, -, -⟩ := strObj wi al E V C
  exact ⟨A, ⟨_, hB.2.2.1, D, hB.1, rfl, by cases q : D.vm <;> first | rfl | exact absurd q (hB.2.1.2 _)⟩, Has.of hB F1 g1, Has.of hB F2 g2, ⟨K1.1, State.isArrayOf_alike al K1.2.1, K1.2.2, by rcases hcod with ⟨-, q, -⟩ | ⟨-, q, -⟩ <;> omega⟩, hcod, fun j hj => by
    have e : cs.getD j 0 = cs[j] := by simp [List.getD_eq_getElem?_getD, hj]
    show ¬ cs.getD j 0 < 0 ∧ ¬ 65535 < cs.getD j 0
    rw [e]; exact hb _ (List.getElem_mem _)⟩
theorem same_list (cs ds : List Int32) : SameT cs.length (fun j => cs.getD j 0) ds.length (fun j => ds.getD j 0) ↔ cs = ds := by
  constructor
  · rintro ⟨e, q⟩
    refine List.ext_getElem e fun j h1 h2 => ?_
    have := q j h1
    simpa [List.getD_eq_getElem?_getD, h1, h2] using this
  · rintro rfl
    exact ⟨rfl, fun _ _ => rfl⟩
/-- **equals(Object) OF TWO SUCH STRINGS**: 1 just where the chars are the same -/
theorem eqW {p : Program} {l : Launch} {e : Env} {R : Room} {s : State} {args : Array Value} {below : List Frame} {len W : Nat} {Z : State} {a0 : Array Value} {h : Heap} (hZ : Z.Warmed39 s.vm) (hw : ∀ d ∈ wordsEq, d.before a0 Z = true) {kI : Nat} (wi : (Jvm.Cond.instantiable ST kI).before a0 Z = true)
    {x t : Addr} {kb : ClassId} {cs : List Int32} {cd N2 : Int32} {vs : List Value} (E : RoadKit.Exa Z h x ST) (V : RoadKit.Fld Z h x ST "value" "[B" (.ref t)) (C : RoadKit.Fld Z h x ST "coder" "B" (.int cd)) (K : RoadKit.Arv Z h t kb .byte N2 vs (.int 0)) (hc : CodA cs cd N2 vs) (hb : ∀ c ∈ cs, ¬ c < 0 ∧ ¬ (65535 : Int32) < c) (l2 : cs.length ≤ 4000)
    {y t' : Addr} {kb' : ClassId} {ds : List Int32} {cd' N2' : Int32} {vs' : List Value} (E' : RoadKit.Exa Z h y ST) (V' : RoadKit.Fld Z h y ST "value" "[B" (.ref t')) (C' : RoadKit.Fld Z h y ST "coder" "B" (.int cd')) (K' : RoadKit.Arv Z h t' kb' .byte N2' vs' (.int 0)) (hc' : CodA ds cd' N2' vs') (hb' : ∀ c ∈ ds, ¬ c < 0 ∧ ¬ (65535 : Int32) < c) (l2' : ds.length ≤ 4000)
    {z : Int32} (S : RoadKit.Sta Z h ST "COMPACT_STRINGS" "Z" (.int z)) (hz : ¬ z = 0) (hfr : 2 ≤ R.frames) (hlo : W + 28 ≤ R.locals) :
    Back l R p e below s args (⟨"java/lang/String", "equals", "(Ljava/lang/Object;)Z"⟩ : MethodName) len W (fun P a => a = #[.ref x, .ref y] ∧ P.U.heap = h ∧ P.cells + 0 ≤ R.cells ∧ P.slots + 0 ≤ R.slots)
      (fun P _ v B => ∃ L, (((v = some (.int 1) ∧ cs = ds) ∨ (v = some (.int 0) ∧ ¬ cs = ds)) ∧ L = [] ∧ B.U.heap = h) ∧ B.locs = P.locs ++ L ∧ B.cells = P.cells + 0 ∧ B.slots = P.slots + 0) := by
  intro m meth c P g ig mk a X hg hsize hdg hW hn hp'
  obtain ⟨rfl, rfl, r1, r2⟩ := hp'
  have al : Z.vm.Alike P.U.vm := hZ.alike.trans X.warmed.alike
  obtain ⟨A, hx⟩ := txt_of wi al E V C K hc hb l2
  obtain ⟨A', hy⟩ := txt_of wi al E' V' C' K' hc' hb' l2'
  obtain ⟨v, B, X', ⟨⟨w, hv, hh, hq⟩, hl, hk, hs⟩, st⟩ := SEq.pays x t A cd cs.length (fun j => cs.getD j 0) y t' A' cd' ds.length (fun j => ds.getD j 0) z (tabEq_of (movedEq hZ hw)) hfr hlo m meth c P g ig mk _ X hg hsize hdg hW hn ⟨r1, r2, rfl, hx, hy, sta_is al S, hz⟩
  refine ⟨v, B, X', ⟨[], ⟨?_, rfl, hh⟩, hl, hk, hs⟩, st⟩
  rcases hq with ⟨rfl, q⟩ | ⟨rfl, q⟩
  · exact Or.inl ⟨hv, (same_list cs ds).mp q⟩
  · exact Or.inr ⟨hv, fun e => q ((same_list cs ds).mpr e)⟩
end StrChars.Road
namespace StrChars.Road
open Jvm Sem ClassFile Op Lib Jvm.Stand Jvm.Free Jvm.Free.XT
open Jvm.Lib.Cold (StaticIs)
/-- what backV says of its String, as the contracts of this text ask it: cs's low bytes, coder 0 -/
theorem codOf {cs : List Int32} {n : Nat} (hn : cs.length = n) (hb : ∀ c ∈ cs, ¬ 255 < c) : CodA cs 0 (Int32.ofNat n) ((cs.map lo8).map Value.int) := Or.inl ⟨rfl, by rw [hn], by simp [List.map_map, Function.comp_def], hb⟩
end StrChars.Road
end Jvm.Pilot.@@N@@

namespace Jvm.Pilot.@@N@@
open Jvm Jvm.ClassFile Sem Op Lib Jvm.Free Jvm.Stand Jvm.LawKit Jvm.RoadKit Bundle Jvm.Pilot.@@N@@.Jvm.D
section OwnRet
variable {p : Program} {l : Launch} {e : Env} {R : Room} {s : State} {m : MethodId} {args : Array Value} {below : List Frame} {meth : Method} {c : Code} {T : State} {locs : List Loc} {cells slots : Nat}
theorem own_retI (X : Stand p l e R s m args below meth c T locs cells slots) (hx : p.tables.exec = Jvm.exec) {pc : Nat} {Ls : Array Slot} {z : Int32} {rest : List Value} (hret : meth.sig.returnType = some .int) (hd : decode c.code pc = .ok (.ireturn, 1)) {fs : List Frame}
    (hl : ∀ (f : JFrame) (acts : List Action), f.method = m → f.locked = none → f.entered = [] → (doReturn e (T.setTop f) acts (some (.int z))).1 = T.setFrames fs) : Steps p.tables e below (T.setTop (mkF m pc Ls (.int z :: rest))) (T.setFrames fs) := retOut X hx hret rfl (Or.inl ⟨rfl, Or.inl rfl, _, rfl⟩) hd hl
end OwnRet
theorem own_cR (x : Nat) : (Value.ref x).category = 1 := rfl
theorem own_cI (x : Int32) : (Value.int x).category = 1 := rfl
theorem own_cJ (x : Int64) : (Value.long x).category = 2 := rfl
theorem own_cN : Value.null.category = 1 := rfl
theorem own_cat {v : Value} (h : v.isRef = true) : v.category = 1 := by rcases ref_cases h with q | ⟨_, q⟩ <;> subst q <;> rfl
theorem own_c255 (x : Int32) : ¬ (x &&& 255) < 0 ∧ ¬ (255 : Int32) < (x &&& 255) := by
  have h := c_and x 255 (by decide)
  rw [Int32.lt_iff_toInt_lt, Int32.lt_iff_toInt_lt]
  have e0 : (0 : Int32).toInt = 0 := rfl
  have e1 : (255 : Int32).toInt = 255 := rfl
  omega
theorem own_up {cs : List Int32} (h : ∀ c ∈ cs, ¬ c < 0 ∧ ¬ (255 : Int32) < c) : ∀ c ∈ cs, ¬ c < 0 ∧ ¬ (65535 : Int32) < c := fun c hc => ⟨(h c hc).1, fun q => (h c hc).2 (by
  rw [Int32.lt_iff_toInt_lt] at q ⊢
  have e0 : (65535 : Int32).toInt = 65535 := rfl
  have e1 : (255 : Int32).toInt = 255 := rfl
  omega)⟩
theorem own_nc {x : Int32} (h0 : ¬ x < 0) (h1 : ¬ (255 : Int32) < x) : nar .char x = x := by
  show x.toUInt32.toUInt16.toUInt32.toInt32 = x
  have h := c_i2c x
  rw [Int32.lt_iff_toInt_lt] at h0 h1
  have e0 : (0 : Int32).toInt = 0 := rfl
  have e1 : (255 : Int32).toInt = 255 := rfl
  exact Int32.toInt_inj.mp (by omega)
theorem own_nb (x : Int32) : nar .byte (x.toInt8.toInt32) = x.toInt8.toInt32 := by simp [nar]
theorem own_i2c {x : Int32} (h0 : ¬ x < 0) (h1 : ¬ (255 : Int32) < x) : x.toUInt32.toUInt16.toUInt32.toInt32 = x := own_nc h0 h1
theorem own_op_iand {tb : Tables} [Ours tb] {e : Env} {below : List Frame} {T target : State} {m : MethodId} {c : Code} {g : JFrame} (h : At T m c below) (hx : tb.exec = Jvm.exec) (hg : g.method = m) {x y : Int32} {rest : List Value} (hd : decode c.code g.pc = .ok (.iand, 1)) (hs : g.stack = .int y :: .int x :: rest) {z : Int32} (hz : x &&& y = z) (hr : Steps tb e below (T.setTop { g with pc := g.pc + 1, stack := .int z :: rest }) target) : Steps tb e below (T.setTop g) target := by
  subst hz; exact XS.iand h hx hg hd hs hr
theorem own_op_iinc {tb : Tables} [Ours tb] {e : Env} {below : List Frame} {T target : State} {m : MethodId} {c : Code} {g : JFrame} (h : At T m c below) (hx : tb.exec = Jvm.exec) (hg : g.method = m) {k : Nat} {cst : Int} {x : Int32} (v : Int32) (hd : decode c.code g.pc = .ok (.iinc k cst, 3)) (hv : Int32.ofInt cst = v) (hl : g.locals[k]? = some (.val (.int x))) {z : Int32} (hz : x + v = z) {l' : Array Slot} (hl' : storeLocals g.locals k (.int z) = some l') (hr : Steps tb e below (T.setTop { g with pc := g.pc + 3, locals := l' }) target) : Steps tb e below (T.setTop g) target := by
  subst hz; exact XT.iincV h hx hg v hd hv hl hl' hr
theorem own_hws {a0 : Array Value} {Z : State} (hw : ∀ d ∈ tables_1, d.before a0 Z = true) : ∀ d ∈ StrChars.Road.words, d.before a0 Z = true := fun d hd => hw d ((by decide +kernel : ∀ d ∈ StrChars.Road.words, d ∈ tables_1) d hd)
theorem own_hwe {a0 : Array Value} {Z : State} (hw : ∀ d ∈ tables_1, d.before a0 Z = true) : ∀ d ∈ StrChars.Road.wordsEq, d.before a0 Z = true := fun d hd => hw d ((by decide +kernel : ∀ d ∈ StrChars.Road.wordsEq, d ∈ tables_1) d hd)
theorem own_eqI {args : Array Value} {s : State} {t : Term} {k : Int32} (h : (Jvm.Cond.eq t (Term.int k)).value args s none s [] = some true) : t.eval args s none [] s = some (.int k) := by
  obtain ⟨x, y, ha, hb, k1, k2⟩ := cmp_v (Or.inl h)
  have e : y = .int k := Option.some.inj (hb.symm.trans (Term.int_eval k))
  subst e
  obtain ⟨z, rfl⟩ := k2
  rw [ha, gotT (Cond.eq_ints ha hb) h]
theorem own_eqR {args : Array Value} {s : State} {t u : Term} {b : Addr} (h : (Jvm.Cond.eq t u).value args s none s [] = some true) (hu : u.eval args s none [] s = some (.ref b)) : t.eval args s none [] s = some (.ref b) := by
  obtain ⟨x, y, ha, hb, k1, k2⟩ := cmp_v (Or.inl h)
  have e : y = .ref b := Option.some.inj (hb.symm.trans hu)
  subst e
  have q := gotT (eq_R ha hb k2.2 k2.1) h
  rw [ha, q]
theorem own_len {args : Array Value} {s : State} {t : Term} {a : Addr} {cl : Cell} {ty : FieldType} {n : Int32} (ev : t.eval args s none [] s = some (.ref a)) (A : Arr s s.heap a cl ty) (h : (Term.length t).eval args s none [] s = some (.int n)) : cl.slots.size < 2 ^ 31 ∧ cl.slots.size.toInt32 = n := by
  have ha : s.arrayAt? a = some cl := Arr.fin (Vm.Alike.refl _) A
  by_cases q : cl.slots.size < 2 ^ 31
  · rw [len_f ev ha q] at h
    exact ⟨q, by simpa using h⟩
  · simp [Term.eval, ev, ha, q] at h
theorem own_IBw {Z : State} {vm vm1 : Vm} {Ts : List String} (I : IB Z vm Ts) (h : vm1.interned = vm.interned) : IB Z vm1 Ts := by
  obtain ⟨more, h1, h2⟩ := I
  exact ⟨more, h.trans h1, h2⟩
theorem own_IBm {Z : State} {vm : Vm} {Ts Ts' : List String} (I : IB Z vm Ts) (h : ∀ t ∈ Ts, t ∈ Ts') : IB Z vm Ts' := by
  obtain ⟨more, h1, h2⟩ := I
  exact ⟨more, h1, fun q hq => by obtain ⟨t, ht, e⟩ := h2 q hq; exact ⟨t, h t ht, e⟩⟩
theorem own_hwS {a0 : Array Value} {Z : State} (hw : ∀ d ∈ tables_1, d.before a0 Z = true) : ∀ d ∈ Bundle.stringAtoms, d.before a0 Z = true := fun d hd => hw d ((by decide +kernel : ∀ d ∈ Bundle.stringAtoms, d ∈ tables_1) d hd)
section OwnW
variable {p : Program} {l : Launch} {e : Env} {R : Room} {s : State} {m : MethodId} {args : Array Value} {below : List Frame} {meth : Method} {c : Code} {T : State} {locs : List Loc} {cells slots : Nat} {Z : State} {a0 : Array Value} {h : Heap}
theorem own_backOfS {y : MethodName} {bytes : ByteArray} {maxL : Nat} {ret : Option FieldType} {rm : Room} {len W : Nat} {as' : Array Value} {Ts : List String} {Q : Option Value → Heap → Vm → List Loc → Prop}
    (hM : MetFree l y (head1 [Jvm.Cond.code y bytes maxL ret] rm) (fun a U => a = as' ∧ Z.Warmed39 U.vm ∧ U.heap = h ∧ IB Z U.vm Ts) (fun _ _ _ _ _ => True) (fun _ U o U' => ∃ v L, o = .returned v ∧ Q v U'.heap U'.vm L ∧ ReturnedEndW U o U' L rm.cells rm.slots))
    (hZ : Z.Warmed39 s.vm) (hI : IB Z s.vm Ts) (wc : (Jvm.Cond.code y bytes maxL ret).before a0 Z = true) (wz : (Jvm.Cond.initialized y.cls).before a0 Z = true) (hf : rm.frames + 1 ≤ R.frames) (hl : W + (maxL + 11) + rm.locals ≤ R.locals) :
    BackS l R p e below s args y len W (fun A a => a = as' ∧ A.U.heap = h ∧ A.cells + rm.cells ≤ R.cells ∧ A.slots + rm.slots ≤ R.slots)
      (fun A _ v B => ∃ L, Q v B.U.heap B.U.vm L ∧ B.locs = A.locs ++ L ∧ B.cells = A.cells + rm.cells ∧ B.slots = A.slots + rm.slots) :=
  BackS.of_freeW (bytes := bytes) (maxL := maxL) (ret := ret) (E := fun _ _ o t L k n => k = rm.cells ∧ n = rm.slots ∧ ∃ v, o = .returned v ∧ Q v t.heap t.vm L) hM hf hl
    (fun m meth c A a Y hp => have hU : Z.Warmed39 A.U.vm := wtrans hZ Y.warmed
      ⟨by show (Jvm.Cond.and _ .tt).before a A.U = true; rw [Cond.before_and, mv hU wc]; rfl, mv hU wc, mv hU wz, hp.2.2.1, hp.2.2.2⟩)
    (fun m meth c A a g mk Y hp => ⟨hp.1, wtrans hZ Y.warmed, hp.2.1, own_IBw hI Y.warmed.interned_eq⟩) (fun _ _ _ _ _ _ _ _ _ => trivial)
    (fun _ _ _ _ ⟨v, L, h1, h2, h3⟩ => ⟨L, _, _, h3, rfl, rfl, v, h1, h2⟩)
    (fun m meth c A a g mk v t L k n Y hp _ _ ⟨e1, e2, v', e3, e4⟩ => by cases e3; subst e1 e2; exact ⟨L, e4, rfl, rfl, rfl⟩)
end OwnW
theorem own_cod9 : StrChars.Road.CodA ([(49 : Int32), (48 : Int32), (49 : Int32), (54 : Int32), (45 : Int32), (48 : Int32), (46 : Int32), (49 : Int32), (50 : Int32)] : List Int32) 0 (9 : Int32) [(.int (49 : Int32)), (.int (48 : Int32)), (.int (49 : Int32)), (.int (54 : Int32)), (.int (45 : Int32)), (.int (48 : Int32)), (.int (46 : Int32)), (.int (49 : Int32)), (.int (50 : Int32))] := StrChars.Road.codOf (n := 9) rfl (by decide)
theorem own_cod12 : StrChars.Road.CodA ([(49 : Int32), (48 : Int32), (49 : Int32), (52 : Int32), (46 : Int32), (56 : Int32), (45 : Int32), (48 : Int32), (46 : Int32), (49 : Int32), (49 : Int32), (52 : Int32)] : List Int32) 0 (12 : Int32) [(.int (49 : Int32)), (.int (48 : Int32)), (.int (49 : Int32)), (.int (52 : Int32)), (.int (46 : Int32)), (.int (56 : Int32)), (.int (45 : Int32)), (.int (48 : Int32)), (.int (46 : Int32)), (.int (49 : Int32)), (.int (49 : Int32)), (.int (52 : Int32))] := StrChars.Road.codOf (n := 12) rfl (by decide)
-- table words
theorem tw0 {a0 : Array Value} {Z : State} (hw : ∀ d ∈ tables_1, d.before a0 Z = true) : (Jvm.Cond.fieldLink "com/example/kwhconv/kwhconv/PressureRuleOfPinLaw" (13 : Nat) "com/example/kwhconv/kwhconv/PressureRule" "RULE_1016_0_12" "Lcom/example/kwhconv/kwhconv/PressureRule;").before a0 Z = true := hw _ (List.mem_of_getElem? (i := 0) rfl)
theorem tw1 {a0 : Array Value} {Z : State} (hw : ∀ d ∈ tables_1, d.before a0 Z = true) : (Jvm.Cond.initialized "com/example/kwhconv/kwhconv/PressureRule").before a0 Z = true := hw _ (List.mem_of_getElem? (i := 1) rfl)
theorem tw2 {a0 : Array Value} {Z : State} (hw : ∀ d ∈ tables_1, d.before a0 Z = true) : (Jvm.Cond.laysStatic "com/example/kwhconv/kwhconv/PressureRule" "RULE_1016_0_12" "Lcom/example/kwhconv/kwhconv/PressureRule;").before a0 Z = true := hw _ (List.mem_of_getElem? (i := 2) rfl)
theorem tw3 {a0 : Array Value} {Z : State} (hw : ∀ d ∈ tables_1, d.before a0 Z = true) : (Jvm.Cond.fieldLink "com/example/kwhconv/kwhconv/PressureRuleOfPinLaw" (7 : Nat) "com/example/kwhconv/kwhconv/PressureRule" "RULE_1014_8_0_114" "Lcom/example/kwhconv/kwhconv/PressureRule;").before a0 Z = true := hw _ (List.mem_of_getElem? (i := 3) rfl)
theorem tw4 {a0 : Array Value} {Z : State} (hw : ∀ d ∈ tables_1, d.before a0 Z = true) : (Jvm.Cond.laysStatic "com/example/kwhconv/kwhconv/PressureRule" "RULE_1014_8_0_114" "Lcom/example/kwhconv/kwhconv/PressureRule;").before a0 Z = true := hw _ (List.mem_of_getElem? (i := 4) rfl)
theorem tw5 {a0 : Array Value} {Z : State} (hw : ∀ d ∈ tables_1, d.before a0 Z = true) : (Jvm.Cond.classLink "com/example/kwhconv/kwhconv/PressureRuleOfPinLaw" (16 : Nat) "java/lang/String").before a0 Z = true := hw _ (List.mem_of_getElem? (i := 5) rfl)
theorem tw6 {a0 : Array Value} {Z : State} (hw : ∀ d ∈ tables_1, d.before a0 Z = true) : (Jvm.Cond.instantiable "java/lang/String" (4 : Nat)).before a0 Z = true := hw _ (List.mem_of_getElem? (i := 6) rfl)
theorem tw7 {a0 : Array Value} {Z : State} (hw : ∀ d ∈ tables_1, d.before a0 Z = true) : (Jvm.Cond.initialized "java/lang/String").before a0 Z = true := hw _ (List.mem_of_getElem? (i := 7) rfl)
theorem tw8 {a0 : Array Value} {Z : State} (hw : ∀ d ∈ tables_1, d.before a0 Z = true) : (Jvm.Cond.arrayClass Jvm.ClassFile.FieldType.char).before a0 Z = true := hw _ (List.mem_of_getElem? (i := 8) rfl)
theorem tw9 {a0 : Array Value} {Z : State} (hw : ∀ d ∈ tables_1, d.before a0 Z = true) : (Jvm.Cond.methodLink "com/example/kwhconv/kwhconv/PressureRuleOfPinLaw" (18 : Nat) ({ cls := "java/lang/String", name := "<init>", desc := "([C)V" } : Jvm.MethodName)).before a0 Z = true := hw _ (List.mem_of_getElem? (i := 9) rfl)
theorem tw10 {a0 : Array Value} {Z : State} (hw : ∀ d ∈ tables_1, d.before a0 Z = true) : (Jvm.Cond.instanceMethod ({ cls := "java/lang/String", name := "<init>", desc := "([C)V" } : Jvm.MethodName)).before a0 Z = true := hw _ (List.mem_of_getElem? (i := 10) rfl)
theorem tw11 {a0 : Array Value} {Z : State} (hw : ∀ d ∈ tables_1, d.before a0 Z = true) : (Jvm.Cond.code ({ cls := "java/lang/String", name := "<init>", desc := "([C)V" } : Jvm.MethodName) jdk_42_method_3_code (2 : Nat) (Option.none : Option Jvm.ClassFile.FieldType)).before a0 Z = true := hw _ (List.mem_of_getElem? (i := 11) rfl)
theorem tw32 {a0 : Array Value} {Z : State} (hw : ∀ d ∈ tables_1, d.before a0 Z = true) : (Jvm.Cond.laysFinal "java/lang/String" "java/lang/String" "coder" "B").before a0 Z = true := hw _ (List.mem_of_getElem? (i := 32) rfl)
theorem tw34 {a0 : Array Value} {Z : State} (hw : ∀ d ∈ tables_1, d.before a0 Z = true) : (Jvm.Cond.laysFinal "java/lang/String" "java/lang/String" "value" "[B").before a0 Z = true := hw _ (List.mem_of_getElem? (i := 34) rfl)
theorem tw35 {a0 : Array Value} {Z : State} (hw : ∀ d ∈ tables_1, d.before a0 Z = true) : (Jvm.Cond.methodLink "com/example/kwhconv/kwhconv/PressureRuleOfPinLaw" (21 : Nat) ({ cls := "com/example/kwhconv/kwhconv/PressureRule", name := "of", desc := "(Ljava/lang/String;)Lcom/example/kwhconv/kwhconv/PressureRule;" } : Jvm.MethodName)).before a0 Z = true := hw _ (List.mem_of_getElem? (i := 35) rfl)
theorem tw36 {a0 : Array Value} {Z : State} (hw : ∀ d ∈ tables_1, d.before a0 Z = true) : (Jvm.Cond.static ({ cls := "com/example/kwhconv/kwhconv/PressureRule", name := "of", desc := "(Ljava/lang/String;)Lcom/example/kwhconv/kwhconv/PressureRule;" } : Jvm.MethodName)).before a0 Z = true := hw _ (List.mem_of_getElem? (i := 36) rfl)
theorem tw37 {a0 : Array Value} {Z : State} (hw : ∀ d ∈ tables_1, d.before a0 Z = true) : (Jvm.Cond.code ({ cls := "com/example/kwhconv/kwhconv/PressureRule", name := "of", desc := "(Ljava/lang/String;)Lcom/example/kwhconv/kwhconv/PressureRule;" } : Jvm.MethodName) prog_16_method_4_code (5 : Nat) (Option.some (Jvm.ClassFile.FieldType.object "com/example/kwhconv/kwhconv/PressureRule"))).before a0 Z = true := hw _ (List.mem_of_getElem? (i := 37) rfl)
theorem tw38 {a0 : Array Value} {Z : State} (hw : ∀ d ∈ tables_1, d.before a0 Z = true) : (Jvm.Cond.stringLink "com/example/kwhconv/kwhconv/PressureRule" (49 : Nat) "pressure rule").before a0 Z = true := hw _ (List.mem_of_getElem? (i := 38) rfl)
theorem tw41 {a0 : Array Value} {Z : State} (hw : ∀ d ∈ tables_1, d.before a0 Z = true) : (Jvm.Cond.methodLink "com/example/kwhconv/kwhconv/PressureRule" (51 : Nat) ({ cls := "java/util/Objects", name := "requireNonNull", desc := "(Ljava/lang/Object;Ljava/lang/String;)Ljava/lang/Object;" } : Jvm.MethodName)).before a0 Z = true := hw _ (List.mem_of_getElem? (i := 41) rfl)
theorem tw42 {a0 : Array Value} {Z : State} (hw : ∀ d ∈ tables_1, d.before a0 Z = true) : (Jvm.Cond.static ({ cls := "java/util/Objects", name := "requireNonNull", desc := "(Ljava/lang/Object;Ljava/lang/String;)Ljava/lang/Object;" } : Jvm.MethodName)).before a0 Z = true := hw _ (List.mem_of_getElem? (i := 42) rfl)
theorem tw43 {a0 : Array Value} {Z : State} (hw : ∀ d ∈ tables_1, d.before a0 Z = true) : (Jvm.Cond.initialized "java/util/Objects").before a0 Z = true := hw _ (List.mem_of_getElem? (i := 43) rfl)
theorem tw44 {a0 : Array Value} {Z : State} (hw : ∀ d ∈ tables_1, d.before a0 Z = true) : (Jvm.Cond.code ({ cls := "java/util/Objects", name := "requireNonNull", desc := "(Ljava/lang/Object;Ljava/lang/String;)Ljava/lang/Object;" } : Jvm.MethodName) jdk_31_method_11_code (2 : Nat) (Option.some (Jvm.ClassFile.FieldType.object "java/lang/Object"))).before a0 Z = true := hw _ (List.mem_of_getElem? (i := 44) rfl)
theorem tw45 {a0 : Array Value} {Z : State} (hw : ∀ d ∈ tables_1, d.before a0 Z = true) : (Jvm.Cond.methodLink "com/example/kwhconv/kwhconv/PressureRule" (57 : Nat) ({ cls := "com/example/kwhconv/kwhconv/PressureRule", name := "values", desc := "()[Lcom/example/kwhconv/kwhconv/PressureRule;" } : Jvm.MethodName)).before a0 Z = true := hw _ (List.mem_of_getElem? (i := 45) rfl)
theorem tw46 {a0 : Array Value} {Z : State} (hw : ∀ d ∈ tables_1, d.before a0 Z = true) : (Jvm.Cond.static ({ cls := "com/example/kwhconv/kwhconv/PressureRule", name := "values", desc := "()[Lcom/example/kwhconv/kwhconv/PressureRule;" } : Jvm.MethodName)).before a0 Z = true := hw _ (List.mem_of_getElem? (i := 46) rfl)
theorem tw47 {a0 : Array Value} {Z : State} (hw : ∀ d ∈ tables_1, d.before a0 Z = true) : (Jvm.Cond.code ({ cls := "com/example/kwhconv/kwhconv/PressureRule", name := "values", desc := "()[Lcom/example/kwhconv/kwhconv/PressureRule;" } : Jvm.MethodName) prog_16_method_1_code (0 : Nat) (Option.some (Jvm.ClassFile.FieldType.array (Jvm.ClassFile.FieldType.object "com/example/kwhconv/kwhconv/PressureRule")))).before a0 Z = true := hw _ (List.mem_of_getElem? (i := 47) rfl)
theorem tw48 {a0 : Array Value} {Z : State} (hw : ∀ d ∈ tables_1, d.before a0 Z = true) : (Jvm.Cond.fieldLink "com/example/kwhconv/kwhconv/PressureRule" (10 : Nat) "com/example/kwhconv/kwhconv/PressureRule" "$VALUES" "[Lcom/example/kwhconv/kwhconv/PressureRule;").before a0 Z = true := hw _ (List.mem_of_getElem? (i := 48) rfl)
theorem tw50 {a0 : Array Value} {Z : State} (hw : ∀ d ∈ tables_1, d.before a0 Z = true) : (Jvm.Cond.methodLink "com/example/kwhconv/kwhconv/PressureRule" (14 : Nat) ({ cls := "[Lcom/example/kwhconv/kwhconv/PressureRule;", name := "clone", desc := "()Ljava/lang/Object;" } : Jvm.MethodName)).before a0 Z = true := hw _ (List.mem_of_getElem? (i := 50) rfl)
theorem tw51 {a0 : Array Value} {Z : State} (hw : ∀ d ∈ tables_1, d.before a0 Z = true) : (Jvm.Cond.sameMethod "[Lcom/example/kwhconv/kwhconv/PressureRule;" "java/lang/Object" "clone" "()Ljava/lang/Object;").before a0 Z = true := hw _ (List.mem_of_getElem? (i := 51) rfl)
theorem tw53 {a0 : Array Value} {Z : State} (hw : ∀ d ∈ tables_1, d.before a0 Z = true) : (Jvm.Cond.instanceMethod ({ cls := "java/lang/Object", name := "clone", desc := "()Ljava/lang/Object;" } : Jvm.MethodName)).before a0 Z = true := hw _ (List.mem_of_getElem? (i := 53) rfl)
theorem tw54 {a0 : Array Value} {Z : State} (hw : ∀ d ∈ tables_1, d.before a0 Z = true) : (Jvm.Cond.selects "[Lcom/example/kwhconv/kwhconv/PressureRule;" ({ cls := "[Lcom/example/kwhconv/kwhconv/PressureRule;", name := "clone", desc := "()Ljava/lang/Object;" } : Jvm.MethodName) ({ cls := "java/lang/Object", name := "clone", desc := "()Ljava/lang/Object;" } : Jvm.MethodName)).before a0 Z = true := hw _ (List.mem_of_getElem? (i := 54) rfl)
theorem tw55 {a0 : Array Value} {Z : State} (hw : ∀ d ∈ tables_1, d.before a0 Z = true) : (Jvm.Cond.native ({ cls := "java/lang/Object", name := "clone", desc := "()Ljava/lang/Object;" } : Jvm.MethodName)).before a0 Z = true := hw _ (List.mem_of_getElem? (i := 55) rfl)
theorem tw56 {a0 : Array Value} {Z : State} (hw : ∀ d ∈ tables_1, d.before a0 Z = true) : (Jvm.Cond.castable "[Lcom/example/kwhconv/kwhconv/PressureRule;" "java/lang/Cloneable").before a0 Z = true := hw _ (List.mem_of_getElem? (i := 56) rfl)
theorem tw57 {a0 : Array Value} {Z : State} (hw : ∀ d ∈ tables_1, d.before a0 Z = true) : (Jvm.Cond.initializedFor "com/example/kwhconv/kwhconv/PressureRule" "$VALUES" "[Lcom/example/kwhconv/kwhconv/PressureRule;").before a0 Z = true := hw _ (List.mem_of_getElem? (i := 57) rfl)
theorem tw58 {a0 : Array Value} {Z : State} (hw : ∀ d ∈ tables_1, d.before a0 Z = true) : (Jvm.Cond.classLink "com/example/kwhconv/kwhconv/PressureRule" (15 : Nat) "[Lcom/example/kwhconv/kwhconv/PressureRule;").before a0 Z = true := hw _ (List.mem_of_getElem? (i := 58) rfl)
theorem tw60 {a0 : Array Value} {Z : State} (hw : ∀ d ∈ tables_1, d.before a0 Z = true) : (Jvm.Cond.fieldLink "com/example/kwhconv/kwhconv/PressureRule" (45 : Nat) "com/example/kwhconv/kwhconv/PressureRule" "text" "Ljava/lang/String;").before a0 Z = true := hw _ (List.mem_of_getElem? (i := 60) rfl)
theorem tw62 {a0 : Array Value} {Z : State} (hw : ∀ d ∈ tables_1, d.before a0 Z = true) : (Jvm.Cond.methodLink "com/example/kwhconv/kwhconv/PressureRule" (61 : Nat) ({ cls := "java/lang/String", name := "equals", desc := "(Ljava/lang/Object;)Z" } : Jvm.MethodName)).before a0 Z = true := hw _ (List.mem_of_getElem? (i := 62) rfl)
theorem tw63 {a0 : Array Value} {Z : State} (hw : ∀ d ∈ tables_1, d.before a0 Z = true) : (Jvm.Cond.declares ({ cls := "java/lang/String", name := "equals", desc := "(Ljava/lang/Object;)Z" } : Jvm.MethodName)).before a0 Z = true := hw _ (List.mem_of_getElem? (i := 63) rfl)
theorem tw64 {a0 : Array Value} {Z : State} (hw : ∀ d ∈ tables_1, d.before a0 Z = true) : (Jvm.Cond.instanceMethod ({ cls := "java/lang/String", name := "equals", desc := "(Ljava/lang/Object;)Z" } : Jvm.MethodName)).before a0 Z = true := hw _ (List.mem_of_getElem? (i := 64) rfl)
theorem tw65 {a0 : Array Value} {Z : State} (hw : ∀ d ∈ tables_1, d.before a0 Z = true) : (Jvm.Cond.selects "java/lang/String" ({ cls := "java/lang/String", name := "equals", desc := "(Ljava/lang/Object;)Z" } : Jvm.MethodName) ({ cls := "java/lang/String", name := "equals", desc := "(Ljava/lang/Object;)Z" } : Jvm.MethodName)).before a0 Z = true := hw _ (List.mem_of_getElem? (i := 65) rfl)
theorem tw72 {a0 : Array Value} {Z : State} (hw : ∀ d ∈ tables_1, d.before a0 Z = true) : (Jvm.Cond.methodLink "com/example/kwhconv/kwhconv/PressureRuleOfPinLaw" (25 : Nat) ({ cls := "com/example/kwhconv/kwhconv/PressureRule", name := "toString", desc := "()Ljava/lang/String;" } : Jvm.MethodName)).before a0 Z = true := hw _ (List.mem_of_getElem? (i := 72) rfl)
theorem tw73 {a0 : Array Value} {Z : State} (hw : ∀ d ∈ tables_1, d.before a0 Z = true) : (Jvm.Cond.declares ({ cls := "com/example/kwhconv/kwhconv/PressureRule", name := "toString", desc := "()Ljava/lang/String;" } : Jvm.MethodName)).before a0 Z = true := hw _ (List.mem_of_getElem? (i := 73) rfl)
theorem tw74 {a0 : Array Value} {Z : State} (hw : ∀ d ∈ tables_1, d.before a0 Z = true) : (Jvm.Cond.instanceMethod ({ cls := "com/example/kwhconv/kwhconv/PressureRule", name := "toString", desc := "()Ljava/lang/String;" } : Jvm.MethodName)).before a0 Z = true := hw _ (List.mem_of_getElem? (i := 74) rfl)
theorem tw75 {a0 : Array Value} {Z : State} (hw : ∀ d ∈ tables_1, d.before a0 Z = true) : (Jvm.Cond.selects "com/example/kwhconv/kwhconv/PressureRule" ({ cls := "com/example/kwhconv/kwhconv/PressureRule", name := "toString", desc := "()Ljava/lang/String;" } : Jvm.MethodName) ({ cls := "com/example/kwhconv/kwhconv/PressureRule", name := "toString", desc := "()Ljava/lang/String;" } : Jvm.MethodName)).before a0 Z = true := hw _ (List.mem_of_getElem? (i := 75) rfl)
theorem tw76 {a0 : Array Value} {Z : State} (hw : ∀ d ∈ tables_1, d.before a0 Z = true) : (Jvm.Cond.code ({ cls := "com/example/kwhconv/kwhconv/PressureRule", name := "toString", desc := "()Ljava/lang/String;" } : Jvm.MethodName) prog_16_method_13_code (1 : Nat) (Option.some (Jvm.ClassFile.FieldType.object "java/lang/String"))).before a0 Z = true := hw _ (List.mem_of_getElem? (i := 76) rfl)
-- decode facts, names, descriptors
theorem d_prog_16_method_1_0 : decode prog_16_method_1_code 0 = .ok (.getstatic 10, 3) := by decide +kernel
theorem d_prog_16_method_1_3 : decode prog_16_method_1_code 3 = .ok (.invokevirtual 14, 3) := by decide +kernel
theorem d_prog_16_method_1_6 : decode prog_16_method_1_code 6 = .ok (.checkcast 15, 3) := by decide +kernel
theorem d_prog_16_method_1_9 : decode prog_16_method_1_code 9 = .ok (.areturn, 1) := by decide +kernel
theorem d_jdk_31_method_11_0 : decode jdk_31_method_11_code 0 = .ok (.aload_n 0, 1) := by decide +kernel
theorem d_jdk_31_method_11_1 : decode jdk_31_method_11_code 1 = .ok (.ifnonnull 12, 3) := by decide +kernel
theorem d_jdk_31_method_11_13 : decode jdk_31_method_11_code 13 = .ok (.aload_n 0, 1) := by decide +kernel
theorem d_jdk_31_method_11_14 : decode jdk_31_method_11_code 14 = .ok (.areturn, 1) := by decide +kernel
theorem d_prog_16_method_4_0 : decode prog_16_method_4_code 0 = .ok (.aload_n 0, 1) := by decide +kernel
theorem d_prog_16_method_4_1 : decode prog_16_method_4_code 1 = .ok (.ldc 49, 2) := by decide +kernel
theorem d_prog_16_method_4_3 : decode prog_16_method_4_code 3 = .ok (.invokestatic 51, 3) := by decide +kernel
theorem d_prog_16_method_4_6 : decode prog_16_method_4_code 6 = .ok (.pop, 1) := by decide +kernel
theorem d_prog_16_method_4_7 : decode prog_16_method_4_code 7 = .ok (.invokestatic 57, 3) := by decide +kernel
theorem d_prog_16_method_4_10 : decode prog_16_method_4_code 10 = .ok (.astore_n 1, 1) := by decide +kernel
theorem d_prog_16_method_4_11 : decode prog_16_method_4_code 11 = .ok (.aload_n 1, 1) := by decide +kernel
theorem d_prog_16_method_4_12 : decode prog_16_method_4_code 12 = .ok (.arraylength, 1) := by decide +kernel
theorem d_prog_16_method_4_13 : decode prog_16_method_4_code 13 = .ok (.istore_n 2, 1) := by decide +kernel
theorem d_prog_16_method_4_14 : decode prog_16_method_4_code 14 = .ok (.iconst 0, 1) := by decide +kernel
theorem d_prog_16_method_4_15 : decode prog_16_method_4_code 15 = .ok (.istore_n 3, 1) := by decide +kernel
theorem d_prog_16_method_4_16 : decode prog_16_method_4_code 16 = .ok (.iload_n 3, 1) := by decide +kernel
theorem d_prog_16_method_4_17 : decode prog_16_method_4_code 17 = .ok (.iload_n 2, 1) := by decide +kernel
theorem d_prog_16_method_4_18 : decode prog_16_method_4_code 18 = .ok (.if_icmp .ge 29, 3) := by decide +kernel
theorem d_prog_16_method_4_21 : decode prog_16_method_4_code 21 = .ok (.aload_n 1, 1) := by decide +kernel
theorem d_prog_16_method_4_22 : decode prog_16_method_4_code 22 = .ok (.iload_n 3, 1) := by decide +kernel
theorem d_prog_16_method_4_23 : decode prog_16_method_4_code 23 = .ok (.aaload, 1) := by decide +kernel
theorem d_prog_16_method_4_24 : decode prog_16_method_4_code 24 = .ok (.astore 4, 2) := by decide +kernel
theorem d_prog_16_method_4_26 : decode prog_16_method_4_code 26 = .ok (.aload 4, 2) := by decide +kernel
theorem d_prog_16_method_4_28 : decode prog_16_method_4_code 28 = .ok (.getfield 45, 3) := by decide +kernel
theorem d_prog_16_method_4_31 : decode prog_16_method_4_code 31 = .ok (.aload_n 0, 1) := by decide +kernel
theorem d_prog_16_method_4_32 : decode prog_16_method_4_code 32 = .ok (.invokevirtual 61, 3) := by decide +kernel
theorem d_prog_16_method_4_35 : decode prog_16_method_4_code 35 = .ok (.ifCond .eq 6, 3) := by decide +kernel
theorem d_prog_16_method_4_38 : decode prog_16_method_4_code 38 = .ok (.aload 4, 2) := by decide +kernel
theorem d_prog_16_method_4_40 : decode prog_16_method_4_code 40 = .ok (.areturn, 1) := by decide +kernel
theorem d_prog_16_method_4_41 : decode prog_16_method_4_code 41 = .ok (.iinc 3 1, 3) := by decide +kernel
theorem d_prog_16_method_4_44 : decode prog_16_method_4_code 44 = .ok (.goto (-28), 3) := by decide +kernel
theorem d_prog_16_method_13_0 : decode prog_16_method_13_code 0 = .ok (.aload_n 0, 1) := by decide +kernel
theorem d_prog_16_method_13_1 : decode prog_16_method_13_code 1 = .ok (.getfield 45, 3) := by decide +kernel
theorem d_prog_16_method_13_4 : decode prog_16_method_13_code 4 = .ok (.areturn, 1) := by decide +kernel
theorem pn0 : plainName "com/example/kwhconv/kwhconv/PressureRule" = true := by first | (simp [plainName, overriddenIn]; done) | decide +kernel
theorem pn1 : plainName "java/util/Objects" = true := by first | (simp [plainName, overriddenIn]; done) | decide +kernel
theorem pn2 : plainName "com/example/kwhconv/kwhconv/PressureRuleOfPinLaw" = true := by first | (simp [plainName, overriddenIn]; done) | decide +kernel
theorem pd0 : parseMethodDescriptor "(Ljava/lang/Object;Ljava/lang/String;)Ljava/lang/Object;" = some ⟨[(.object "java/lang/Object"), (.object "java/lang/String")], some (.object "java/lang/Object")⟩ := by decide +kernel
theorem pd1 : parseMethodDescriptor "()[Lcom/example/kwhconv/kwhconv/PressureRule;" = some ⟨[], some (.array (.object "com/example/kwhconv/kwhconv/PressureRule"))⟩ := by decide +kernel
theorem pd2 : parseMethodDescriptor "(Ljava/lang/Object;)Z" = some ⟨[(.object "java/lang/Object")], some .boolean⟩ := by decide +kernel
theorem pd3 : parseMethodDescriptor "([C)V" = some ⟨[(.array .char)], none⟩ := by decide +kernel
theorem pd4 : parseMethodDescriptor "(Ljava/lang/String;)Lcom/example/kwhconv/kwhconv/PressureRule;" = some ⟨[(.object "java/lang/String")], some (.object "com/example/kwhconv/kwhconv/PressureRule")⟩ := by decide +kernel
theorem pd5 : parseMethodDescriptor "()Ljava/lang/String;" = some ⟨[], some (.object "java/lang/String")⟩ := by decide +kernel
def Q_vals (Z : State) (a_RULE_1016_0_12 : Nat) (a_RULE_1014_8_0_114 : Nat) (a__VALUES : Nat) (k_a__VALUES : ClassId) (h0 : Heap) (n0 : Nat) (v : Option Value) (h : Heap) (L : List Loc) : Prop := ∃ (b : Nat), v = some (.ref b) ∧ Fr n0 L ∧ Keep h0 h [] ∧ (Arv Z h b k_a__VALUES (.object "com/example/kwhconv/kwhconv/PressureRule") (2 : Int32) [(.ref a_RULE_1016_0_12), (.ref a_RULE_1014_8_0_114)] .null) ∧ (h0.size ≤ b)
theorem ef_vals (m : MethodId) (a_RULE_1016_0_12 : Nat) (a_RULE_1014_8_0_114 : Nat) (a__VALUES : Nat) (k_a__VALUES : ClassId) : entryFrame m #[] 0 = (mkF m 0 #[] []) := by first | (simp [entryFrame, mkF, argsToLocals, Value.category]; done) | rfl
set_option maxRecDepth 65536 in
set_option maxHeartbeats 40000000 in
theorem rm_vals (l : Launch) (Z : State) (a0 : Array Value) (hw : ∀ d ∈ tables_1, d.before a0 Z = true) (ws : List Jvm.Cond) (a_RULE_1016_0_12 : Nat) (a_RULE_1014_8_0_114 : Nat) (a__VALUES : Nat) (k_a__VALUES : ClassId) (h0 : Heap) (n0 : Nat) (Z0 : n0 ≤ h0.size) (O0 : Old Z n0 h0) (S__VALUES : Sta Z Z.heap "com/example/kwhconv/kwhconv/PressureRule" "$VALUES" "[Lcom/example/kwhconv/kwhconv/PressureRule;" (.ref a__VALUES)) (E_a__VALUES : Exa Z Z.heap a__VALUES "[Lcom/example/kwhconv/kwhconv/PressureRule;") (A_a__VALUES : Arv Z Z.heap a__VALUES k_a__VALUES (.object "com/example/kwhconv/kwhconv/PressureRule") (2 : Int32) [(.ref a_RULE_1016_0_12), (.ref a_RULE_1014_8_0_114)] .null) :
    MetFree l (⟨"com/example/kwhconv/kwhconv/PressureRule", "values", "()[Lcom/example/kwhconv/kwhconv/PressureRule;"⟩ : MethodName) (head1 (Jvm.Cond.code (⟨"com/example/kwhconv/kwhconv/PressureRule", "values", "()[Lcom/example/kwhconv/kwhconv/PressureRule;"⟩ : MethodName) prog_16_method_1_code 0 (some (.array (.object "com/example/kwhconv/kwhconv/PressureRule"))) :: ws) ({ frames := 1, cells := 1, slots := 2, locals := 14 } : Room)) (fun a_ U_ => a_ = #[] ∧ Z.Warmed39 U_.vm ∧ U_.heap = h0) (fun _ _ _ _ _ => True) (fun _ U_ o_ U'_ => ∃ v_ L_, o_ = .returned v_ ∧ Q_vals Z a_RULE_1016_0_12 a_RULE_1014_8_0_114 a__VALUES k_a__VALUES h0 n0 v_ U'_.heap L_ ∧ FrameEnd U_ o_ U'_ L_ ({ frames := 1, cells := 1, slots := 2, locals := 14 } : Room).cells ({ frames := 1, cells := 1, slots := 2, locals := 14 } : Room).slots) := by
  refine MetFree.of_bodySF (plainFor_of_name pn0) hisR ?_
  intro p e s m args below meth c s₁ Bd hml0 hP hK
  obtain ⟨rfl, hZ, hh⟩ := hP
  have hx := Bd.exec
  have hby := Bd.bytes
  have hml : c.maxLocals = 0 := hml0
  have hown : s.vm.findClass "com/example/kwhconv/kwhconv/PressureRule" = some m.cls := findClass_of_methodNamed Bd.named
  have hnm := (name_of_methodNamed Bd.named Bd.method).1
  have X0 : Stand p l e ({ frames := 1, cells := 1, slots := 2, locals := 14 } : Room) s m #[] below meth c s₁ [] 0 0 := Stand.of_body Bd
  have e0 : s₁.heap = h0 := by rw [← hh, Bd.state]; rfl
  have N0 := Fr.nil n0
  have oz : Z.heap.size = n0 := O0.1
  have S0 : ∀ t_, Steps p.tables e below (s₁.setTop (mkF m 0 #[] [])) t_ → Steps p.tables e below (s₁.setTop (entryFrame m #[] 0)) t_ := fun t_ k_ => castTop (ef_vals m a_RULE_1016_0_12 a_RULE_1014_8_0_114 a__VALUES k_a__VALUES) k_
  have K0 := Keep.refl h0 []
  have lt_a__VALUES : (a__VALUES : Nat) < (Z.heap.size : Nat) := E_a__VALUES.lt
  obtain ⟨T1, X1, e1, st1⟩ := getS2 X0 hx hZ hown (host := "") (Or.inl (tw48 hw)) Via.refl e0 (S__VALUES.ext O0.2) (g := (mkF m 0 #[] [])) rfl (hb hby d_prog_16_method_1_0)
  obtain ⟨T2, h2, X2, e2, E2, B2, A2, st2⟩ := cloneH X1 hx hZ hown (tw50 hw) (tw51 hw) (tw55 hw) (tw53 hw) (tw54 hw) (tw56 hw) e1 (Arv.arh (A_a__VALUES.ext O0.2)) (E_a__VALUES.ext O0.2) (g := (mkF m 3 #[] [(.ref a__VALUES)])) rfl (by rw [hml]; rfl) rfl (hb hby d_prog_16_method_1_3) (by decide) (W := 0) (cap := 2) (by show 2 * 0 + _ ≤ _; exact Nat.le_of_eq rfl) (by decide) (by decide) (by decide) (by decide)
  obtain ⟨b2, g2⟩ : ∃ z, z = h0.size := ⟨_, rfl⟩
  rw [← g2] at A2 B2 st2
  have lb2 : (b2 : Nat) < (h2.size : Nat) := A2.lt
  have v2 : Arv Z h2 b2 k_a__VALUES (.object "com/example/kwhconv/kwhconv/PressureRule") (2 : Int32) [(.ref a_RULE_1016_0_12), (.ref a_RULE_1014_8_0_114)] .null := B2
  have z2 := E2.1
  have K2 := K0.ext E2
  have O2 := O0.ext E2
  obtain ⟨T3, X3, e3, st3⟩ := castY X2 hx hZ hown (tw58 hw) e2 (Ins.self A2) (g := (mkF m 6 #[] [(.ref b2)])) rfl rfl (hb hby d_prog_16_method_1_6)
  have S4 : ∀ t_, Steps p.tables e below (T3.setTop (mkF m 9 #[] [(.ref b2)])) t_ → Steps p.tables e below (s₁.setTop (entryFrame m #[] 0)) t_ := by
    intro t_ k_
    refine S0 t_ ?_
    show Steps p.tables e below (s₁.setTop (mkF m 0 #[] [])) _
    refine st1 _ ?_
    show Steps p.tables e below (T1.setTop (mkF m 3 #[] [(.ref a__VALUES)])) _
    refine st2 _ ?_
    show Steps p.tables e below (T2.setTop (mkF m 6 #[] [(.ref b2)])) _
    refine st3 _ ?_
    exact k_
  obtain ⟨fs, hr, hrun, hended, hW, hsame⟩ := X3.leave (v := (some (.ref b2))) (fun h => by rw [Bd.returns] at h; cases h)
  refine ⟨_, _, S4 _ ((retOut X3 hx Bd.returns rfl (Or.inr (Or.inr (Or.inr (Or.inr ⟨rfl, rfl, rfl⟩)))) (hb hby d_prog_16_method_1_9) hr)), hrun, hended, _, _, rfl, ?_, ⟨_, rfl⟩, hW, hsame.mono (by decide) (by decide)⟩
  show Q_vals Z a_RULE_1016_0_12 a_RULE_1014_8_0_114 a__VALUES k_a__VALUES h0 n0 _ T3.heap _
  rw [e3]
  exact ⟨b2, rfl, N0, K2, v2, (by omega)⟩
def Q_rnn (Z : State) (a1 : Nat) (a2 : Nat) (h0 : Heap) (n0 : Nat) (v : Option Value) (h : Heap) (L : List Loc) : Prop := v = some (.ref a1) ∧ Fr n0 L ∧ h = h0
theorem ef_rnn (m : MethodId) (a1 : Nat) (a2 : Nat) : entryFrame m #[(.ref a1), (.ref a2)] 2 = (mkF m 0 #[.val (.ref a1), .val (.ref a2)] []) := by first | (simp [entryFrame, mkF, argsToLocals, Value.category]; done) | rfl
set_option maxRecDepth 65536 in
set_option maxHeartbeats 40000000 in
theorem rm_rnn (l : Launch) (Z : State) (a0 : Array Value) (hw : ∀ d ∈ tables_1, d.before a0 Z = true) (ws : List Jvm.Cond) (a1 : Nat) (a2 : Nat) (h0 : Heap) (n0 : Nat) (Z0 : n0 ≤ h0.size) (O0 : Old Z n0 h0)  :
    MetFree l (⟨"java/util/Objects", "requireNonNull", "(Ljava/lang/Object;Ljava/lang/String;)Ljava/lang/Object;"⟩ : MethodName) (head1 (Jvm.Cond.code (⟨"java/util/Objects", "requireNonNull", "(Ljava/lang/Object;Ljava/lang/String;)Ljava/lang/Object;"⟩ : MethodName) jdk_31_method_11_code 2 (some (.object "java/lang/Object")) :: ws) ({ frames := 0, cells := 0, slots := 0, locals := 0 } : Room)) (fun a_ U_ => a_ = #[(.ref a1), (.ref a2)] ∧ Z.Warmed39 U_.vm ∧ U_.heap = h0) (fun _ _ _ _ _ => True) (fun _ U_ o_ U'_ => ∃ v_ L_, o_ = .returned v_ ∧ Q_rnn Z a1 a2 h0 n0 v_ U'_.heap L_ ∧ FrameEnd U_ o_ U'_ L_ ({ frames := 0, cells := 0, slots := 0, locals := 0 } : Room).cells ({ frames := 0, cells := 0, slots := 0, locals := 0 } : Room).slots) := by
  refine MetFree.of_bodySF (plainFor_of_name pn1) hisR ?_
  intro p e s m args below meth c s₁ Bd hml0 hP hK
  obtain ⟨rfl, hZ, hh⟩ := hP
  have hx := Bd.exec
  have hby := Bd.bytes
  have hml : c.maxLocals = 2 := hml0
  have hown : s.vm.findClass "java/util/Objects" = some m.cls := findClass_of_methodNamed Bd.named
  have hnm := (name_of_methodNamed Bd.named Bd.method).1
  have X0 : Stand p l e ({ frames := 0, cells := 0, slots := 0, locals := 0 } : Room) s m #[(.ref a1), (.ref a2)] below meth c s₁ [] 0 0 := Stand.of_body Bd
  have e0 : s₁.heap = h0 := by rw [← hh, Bd.state]; rfl
  have N0 := Fr.nil n0
  have oz : Z.heap.size = n0 := O0.1
  have S0 : ∀ t_, Steps p.tables e below (s₁.setTop (mkF m 0 #[.val (.ref a1), .val (.ref a2)] [])) t_ → Steps p.tables e below (s₁.setTop (entryFrame m #[(.ref a1), (.ref a2)] 2)) t_ := fun t_ k_ => castTop (ef_rnn m a1 a2) k_
  have S1 : ∀ t_, Steps p.tables e below (s₁.setTop (mkF m 14 #[.val (.ref a1), .val (.ref a2)] [(.ref a1)])) t_ → Steps p.tables e below (s₁.setTop (entryFrame m #[(.ref a1), (.ref a2)] 2)) t_ := by
    intro t_ k_
    refine S0 t_ ?_
    show Steps p.tables e below (s₁.setTop (mkF m 0 #[.val (.ref a1), .val (.ref a2)] [])) _
    refine XS.aloadN X0.here hx rfl (hb hby d_jdk_31_method_11_0) rfl rfl ?_
    show Steps p.tables e below (s₁.setTop (mkF m 1 #[.val (.ref a1), .val (.ref a2)] [(.ref a1)])) _
    refine XS.ifnonnullYes X0.here hx rfl (pc0 := 1) (pc' := 13) rfl (hb hby d_jdk_31_method_11_1) rfl (by decide) (by decide) ?_
    show Steps p.tables e below (s₁.setTop (mkF m 13 #[.val (.ref a1), .val (.ref a2)] [])) _
    refine XS.aloadN X0.here hx rfl (hb hby d_jdk_31_method_11_13) rfl rfl ?_
    exact k_
  obtain ⟨fs, hr, hrun, hended, hW, hsame⟩ := X0.leave (v := (some (.ref a1))) (fun h => by rw [Bd.returns] at h; cases h)
  refine ⟨_, _, S1 _ ((retOut X0 hx Bd.returns rfl (Or.inr (Or.inr (Or.inr (Or.inr ⟨rfl, rfl, rfl⟩)))) (hb hby d_jdk_31_method_11_14) hr)), hrun, hended, _, _, rfl, ?_, ⟨_, rfl⟩, hW, hsame.mono (by decide) (by decide)⟩
  show Q_rnn Z a1 a2 h0 n0 _ s₁.heap _
  rw [e0]
  exact ⟨rfl, N0, rfl⟩
def Q_ofA (Z : State) (x : Nat) (t : Nat) (kb : ClassId) (vs : List Value) (a_RULE_1016_0_12 : Nat) (a_RULE_1014_8_0_114 : Nat) (a__VALUES : Nat) (a_RULE_1016_0_12_text : Nat) (a_RULE_1016_0_12_text_value : Nat) (a_RULE_1014_8_0_114_text : Nat) (a_RULE_1014_8_0_114_text_value : Nat) (k_a__VALUES : ClassId) (k_a_RULE_1016_0_12_text_value : ClassId) (k_a_RULE_1014_8_0_114_text_value : ClassId) (cz : Int32) (h0 : Heap) (n0 : Nat) (v : Option Value) (h : Heap) (L : List Loc) : Prop := v = some (.ref a_RULE_1016_0_12) ∧ Fr n0 L ∧ Keep h0 h []
theorem ef_ofA (m : MethodId) (x : Nat) (t : Nat) (kb : ClassId) (vs : List Value) (a_RULE_1016_0_12 : Nat) (a_RULE_1014_8_0_114 : Nat) (a__VALUES : Nat) (a_RULE_1016_0_12_text : Nat) (a_RULE_1016_0_12_text_value : Nat) (a_RULE_1014_8_0_114_text : Nat) (a_RULE_1014_8_0_114_text_value : Nat) (k_a__VALUES : ClassId) (k_a_RULE_1016_0_12_text_value : ClassId) (k_a_RULE_1014_8_0_114_text_value : ClassId) (cz : Int32) : entryFrame m #[(.ref x)] 5 = (mkF m 0 #[.val (.ref x), .unset, .unset, .unset, .unset] []) := by first | (simp [entryFrame, mkF, argsToLocals, Value.category]; done) | rfl
set_option maxRecDepth 65536 in
set_option maxHeartbeats 40000000 in
theorem rm_ofA (l : Launch) (Z : State) (a0 : Array Value) (hw : ∀ d ∈ tables_1, d.before a0 Z = true) (ws : List Jvm.Cond) (x : Nat) (t : Nat) (kb : ClassId) (vs : List Value) (a_RULE_1016_0_12 : Nat) (a_RULE_1014_8_0_114 : Nat) (a__VALUES : Nat) (a_RULE_1016_0_12_text : Nat) (a_RULE_1016_0_12_text_value : Nat) (a_RULE_1014_8_0_114_text : Nat) (a_RULE_1014_8_0_114_text_value : Nat) (k_a__VALUES : ClassId) (k_a_RULE_1016_0_12_text_value : ClassId) (k_a_RULE_1014_8_0_114_text_value : ClassId) (cz : Int32) (h0 : Heap) (n0 : Nat) (Z0 : n0 ≤ h0.size) (O0 : Old Z n0 h0) (Ex : Exa Z h0 x "java/lang/String") (Fv : Fld Z h0 x "java/lang/String" "value" "[B" (.ref t)) (Fc : Fld Z h0 x "java/lang/String" "coder" "B" (.int (0 : Int32))) (At : Arv Z h0 t kb .byte (9 : Int32) vs (.int (0 : Int32))) (hcod : StrChars.Road.CodA ([(49 : Int32), (48 : Int32), (49 : Int32), (54 : Int32), (45 : Int32), (48 : Int32), (46 : Int32), (49 : Int32), (50 : Int32)] : List Int32) 0 (9 : Int32) vs) (S_RULE_1016_0_12 : Sta Z Z.heap "com/example/kwhconv/kwhconv/PressureRule" "RULE_1016_0_12" "Lcom/example/kwhconv/kwhconv/PressureRule;" (.ref a_RULE_1016_0_12)) (E_a_RULE_1016_0_12 : Exa Z Z.heap a_RULE_1016_0_12 "com/example/kwhconv/kwhconv/PressureRule") (S_RULE_1014_8_0_114 : Sta Z Z.heap "com/example/kwhconv/kwhconv/PressureRule" "RULE_1014_8_0_114" "Lcom/example/kwhconv/kwhconv/PressureRule;" (.ref a_RULE_1014_8_0_114)) (E_a_RULE_1014_8_0_114 : Exa Z Z.heap a_RULE_1014_8_0_114 "com/example/kwhconv/kwhconv/PressureRule") (S__VALUES : Sta Z Z.heap "com/example/kwhconv/kwhconv/PressureRule" "$VALUES" "[Lcom/example/kwhconv/kwhconv/PressureRule;" (.ref a__VALUES)) (E_a__VALUES : Exa Z Z.heap a__VALUES "[Lcom/example/kwhconv/kwhconv/PressureRule;") (F_a_RULE_1016_0_12_text : Fld Z Z.heap a_RULE_1016_0_12 "com/example/kwhconv/kwhconv/PressureRule" "text" "Ljava/lang/String;" (.ref a_RULE_1016_0_12_text)) (E_a_RULE_1016_0_12_text : Exa Z Z.heap a_RULE_1016_0_12_text "java/lang/String") (F_a_RULE_1016_0_12_text_coder : Fld Z Z.heap a_RULE_1016_0_12_text "java/lang/String" "coder" "B" (.int (0 : Int32))) (F_a_RULE_1016_0_12_text_value : Fld Z Z.heap a_RULE_1016_0_12_text "java/lang/String" "value" "[B" (.ref a_RULE_1016_0_12_text_value)) (F_a_RULE_1016_0_12_ordinal : Fld Z Z.heap a_RULE_1016_0_12 "java/lang/Enum" "ordinal" "I" (.int (0 : Int32))) (F_a_RULE_1014_8_0_114_ordinal : Fld Z Z.heap a_RULE_1014_8_0_114 "java/lang/Enum" "ordinal" "I" (.int (1 : Int32))) (F_a_RULE_1014_8_0_114_text : Fld Z Z.heap a_RULE_1014_8_0_114 "com/example/kwhconv/kwhconv/PressureRule" "text" "Ljava/lang/String;" (.ref a_RULE_1014_8_0_114_text)) (E_a_RULE_1014_8_0_114_text : Exa Z Z.heap a_RULE_1014_8_0_114_text "java/lang/String") (F_a_RULE_1014_8_0_114_text_coder : Fld Z Z.heap a_RULE_1014_8_0_114_text "java/lang/String" "coder" "B" (.int (0 : Int32))) (F_a_RULE_1014_8_0_114_text_value : Fld Z Z.heap a_RULE_1014_8_0_114_text "java/lang/String" "value" "[B" (.ref a_RULE_1014_8_0_114_text_value)) (A_a__VALUES : Arv Z Z.heap a__VALUES k_a__VALUES (.object "com/example/kwhconv/kwhconv/PressureRule") (2 : Int32) [(.ref a_RULE_1016_0_12), (.ref a_RULE_1014_8_0_114)] .null) (A_a_RULE_1016_0_12_text_value : Arv Z Z.heap a_RULE_1016_0_12_text_value k_a_RULE_1016_0_12_text_value .byte (9 : Int32) [(.int (49 : Int32)), (.int (48 : Int32)), (.int (49 : Int32)), (.int (54 : Int32)), (.int (45 : Int32)), (.int (48 : Int32)), (.int (46 : Int32)), (.int (49 : Int32)), (.int (50 : Int32))] (.int (0 : Int32))) (A_a_RULE_1014_8_0_114_text_value : Arv Z Z.heap a_RULE_1014_8_0_114_text_value k_a_RULE_1014_8_0_114_text_value .byte (12 : Int32) [(.int (49 : Int32)), (.int (48 : Int32)), (.int (49 : Int32)), (.int (52 : Int32)), (.int (46 : Int32)), (.int (56 : Int32)), (.int (45 : Int32)), (.int (48 : Int32)), (.int (46 : Int32)), (.int (49 : Int32)), (.int (49 : Int32)), (.int (52 : Int32))] (.int (0 : Int32))) (Scz : Sta Z Z.heap "java/lang/String" "COMPACT_STRINGS" "Z" (.int cz)) (hcz : ¬ cz = (0 : Int32)) :
    MetFree l (⟨"com/example/kwhconv/kwhconv/PressureRule", "of", "(Ljava/lang/String;)Lcom/example/kwhconv/kwhconv/PressureRule;"⟩ : MethodName) (head1 (Jvm.Cond.code (⟨"com/example/kwhconv/kwhconv/PressureRule", "of", "(Ljava/lang/String;)Lcom/example/kwhconv/kwhconv/PressureRule;"⟩ : MethodName) prog_16_method_4_code 5 (some (.object "com/example/kwhconv/kwhconv/PressureRule")) :: ws) ({ frames := 2, cells := 3, slots := 58, locals := 28 } : Room)) (fun a_ U_ => a_ = #[(.ref x)] ∧ Z.Warmed39 U_.vm ∧ U_.heap = h0) (fun _ _ _ _ _ => True) (fun _ U_ o_ U'_ => ∃ v_ L_, o_ = .returned v_ ∧ Q_ofA Z x t kb vs a_RULE_1016_0_12 a_RULE_1014_8_0_114 a__VALUES a_RULE_1016_0_12_text a_RULE_1016_0_12_text_value a_RULE_1014_8_0_114_text a_RULE_1014_8_0_114_text_value k_a__VALUES k_a_RULE_1016_0_12_text_value k_a_RULE_1014_8_0_114_text_value cz h0 n0 v_ U'_.heap L_ ∧ ReturnedEndW U_ o_ U'_ L_ ({ frames := 2, cells := 3, slots := 58, locals := 28 } : Room).cells ({ frames := 2, cells := 3, slots := 58, locals := 28 } : Room).slots) := by
  refine MetFree.of_bodySF (plainFor_of_name pn0) hisR ?_
  intro p e s m args below meth c s₁ Bd hml0 hP hK
  obtain ⟨rfl, hZ, hh⟩ := hP
  have hx := Bd.exec
  have hby := Bd.bytes
  have hml : c.maxLocals = 5 := hml0
  have hown : s.vm.findClass "com/example/kwhconv/kwhconv/PressureRule" = some m.cls := findClass_of_methodNamed Bd.named
  have hnm := (name_of_methodNamed Bd.named Bd.method).1
  have X0 : Stand p l e ({ frames := 2, cells := 3, slots := 58, locals := 28 } : Room) (s.setVm s.vm) m #[(.ref x)] below meth c s₁ [] 0 0 := Stand.of_body Bd
  have e0 : s₁.heap = h0 := by rw [← hh, Bd.state]; rfl
  have N0 := Fr.nil n0
  have oz : Z.heap.size = n0 := O0.1
  have S0 : ∀ t_, Steps p.tables e below (s₁.setTop (mkF m 0 #[.val (.ref x), .unset, .unset, .unset, .unset] [])) t_ → Steps p.tables e below (s₁.setTop (entryFrame m #[(.ref x)] 5)) t_ := fun t_ k_ => castTop (ef_ofA m x t kb vs a_RULE_1016_0_12 a_RULE_1014_8_0_114 a__VALUES a_RULE_1016_0_12_text a_RULE_1016_0_12_text_value a_RULE_1014_8_0_114_text a_RULE_1014_8_0_114_text_value k_a__VALUES k_a_RULE_1016_0_12_text_value k_a_RULE_1014_8_0_114_text_value cz) k_
  have K0 := Keep.refl h0 []
  have hS0 : s.Since s.vm 0 := (State.WarmedH.refl s).since 0
  have hZ0 : Z.Warmed39 (s.setVm s.vm).vm := hZ
  have hown0 : (s.setVm s.vm).vm.findClass "com/example/kwhconv/kwhconv/PressureRule" = some m.cls := hown
  have hk0 : 0 ≤ h0.size := Nat.zero_le _
  have hsh : s.heap = h0 := hh
  have lt_x : (x : Nat) < (h0.size : Nat) := Ex.lt
  have lt_t : (t : Nat) < (h0.size : Nat) := At.lt
  have lt_a_RULE_1016_0_12 : (a_RULE_1016_0_12 : Nat) < (Z.heap.size : Nat) := E_a_RULE_1016_0_12.lt
  have lt_a_RULE_1014_8_0_114 : (a_RULE_1014_8_0_114 : Nat) < (Z.heap.size : Nat) := E_a_RULE_1014_8_0_114.lt
  have lt_a__VALUES : (a__VALUES : Nat) < (Z.heap.size : Nat) := E_a__VALUES.lt
  have lt_a_RULE_1016_0_12_text : (a_RULE_1016_0_12_text : Nat) < (Z.heap.size : Nat) := E_a_RULE_1016_0_12_text.lt
  have lt_a_RULE_1014_8_0_114_text : (a_RULE_1014_8_0_114_text : Nat) < (Z.heap.size : Nat) := E_a_RULE_1014_8_0_114_text.lt
  have lt_a_RULE_1016_0_12_text_value : (a_RULE_1016_0_12_text_value : Nat) < (Z.heap.size : Nat) := A_a_RULE_1016_0_12_text_value.lt
  have lt_a_RULE_1014_8_0_114_text_value : (a_RULE_1014_8_0_114_text_value : Nat) < (Z.heap.size : Nat) := A_a_RULE_1014_8_0_114_text_value.lt
  obtain ⟨a1, T1, h1, k1, X1, e1, E1, hS1, hk1, hZ1, hown1, st1⟩ := ldcS X0 hx hZ0 hown0 (tw38 hw) (own_hwS hw) e0 hS0 (by omega) (g := (mkF m 1 #[.val (.ref x), .unset, .unset, .unset, .unset] [(.ref x)])) rfl (hb hby d_prog_16_method_4_1) (n := 52) (by decide) (by decide) (by decide) (by decide)
  have z1 := E1.1
  have K1 := K0.ext E1
  have O1 := O0.ext E1
  obtain ⟨_, _, ⟨T2, L2, k2, n2⟩, -, X2, ⟨Lc2, hQ2, l2, y2, z2⟩, st2⟩ := Jvm.LawKit.callS X1 hx (y := (⟨"java/util/Objects", "requireNonNull", "(Ljava/lang/Object;Ljava/lang/String;)Ljava/lang/Object;"⟩ : MethodName)) hown1 (mvT hZ1 (tw41 hw)) (mvT hZ1 (tw42 hw)) (mvT hZ1 (tw43 hw)) (mvT hZ1 (tw44 hw)) (by decide) (backOf (W := 0) (rm_rnn l Z a0 hw [] x a1 h1 n0 (by omega) O1 ) hZ1 (tw44 hw) (tw43 hw) (by decide) (by decide)) (g := (mkF m 3 #[.val (.ref x), .unset, .unset, .unset, .unset] [(.ref a1), (.ref x)])) rfl (by rw [hml]; rfl) (argsL := [(.ref x), (.ref a1)]) (rest := []) (lenOf pd0 rfl) rfl (by show 2 * 0 + _ ≤ _; exact Nat.le_of_eq rfl) (hb hby d_prog_16_method_4_3) (fun _ _ => ⟨rfl, e1, (by decide : 2 + 0 ≤ _), (by decide : 56 + 0 ≤ _)⟩)
  dsimp only [Pt.U, Pt.locs, Pt.cells, Pt.slots] at X2 l2 y2 z2 st2 hQ2
  subst l2 y2 z2
  obtain ⟨rfl, N2q, Kq2⟩ := hQ2
  have N2 := Fr.app N0 N2q
  obtain ⟨_, _, ⟨T3, L3, k3, n3⟩, -, X3, ⟨Lc3, hQ3, l3, y3, z3⟩, st3⟩ := Jvm.LawKit.callS X2 hx (y := (⟨"com/example/kwhconv/kwhconv/PressureRule", "values", "()[Lcom/example/kwhconv/kwhconv/PressureRule;"⟩ : MethodName)) hown1 (mvT hZ1 (tw45 hw)) (mvT hZ1 (tw46 hw)) (mvT hZ1 (tw1 hw)) (mvT hZ1 (tw47 hw)) (by decide) (backOf (W := 0) (rm_vals l Z a0 hw [] a_RULE_1016_0_12 a_RULE_1014_8_0_114 a__VALUES k_a__VALUES h1 n0 (by omega) O1 S__VALUES E_a__VALUES A_a__VALUES) hZ1 (tw47 hw) (tw1 hw) (by decide) (by decide)) (g := (mkF m 7 #[.val (.ref x), .unset, .unset, .unset, .unset] [])) rfl (by rw [hml]; rfl) (argsL := []) (rest := []) (lenOf pd1 rfl) rfl (by show 2 * 0 + _ ≤ _; exact Nat.le_of_eq rfl) (hb hby d_prog_16_method_4_7) (fun _ _ => ⟨rfl, Kq2, (by decide : 2 + 1 ≤ _), (by decide : 56 + 2 ≤ _)⟩)
  dsimp only [Pt.U, Pt.locs, Pt.cells, Pt.slots] at X3 l3 y3 z3 st3 hQ3
  subst l3 y3 z3
  obtain ⟨b4, rfl, N3q, Kq3, p3_0, p3_1⟩ := hQ3
  have N3 := Fr.app N2 N3q
  have z3 := Kq3.1
  have K3 := K1.trans Kq3 all0
  have O3 := O1.keep Kq3 all0
  have lq5 : (b4 : Nat) < (T3.heap.size : Nat) := p3_0.lt
  obtain ⟨cl6, Ar6, q6, Sz6, Nn6, H6, G6⟩ := id p3_0
  obtain ⟨cl7, Ar7, q7, Sz7, Nn7, H7, G7⟩ := id p3_0
  have hin7 : ¬ ((0 : Int32) < 0 ∨ cl7.slots.size ≤ ((0 : Int32)).toNatClampNeg) := inb_of Sz7 ⟨by decide, by decide⟩
  have hat7 : cl7.slots[((0 : Int32)).toNatClampNeg]? = some (.ref a_RULE_1016_0_12) := H7.at hin7 rfl
  obtain ⟨T8, X8, e8, st8⟩ := getF X3 hx hZ1 hown1 (host := "") (Or.inl (tw60 hw)) Via.refl rfl (F_a_RULE_1016_0_12_text.ext O3.2) (g := (mkF m 28 #[.val (.ref x), .val (.ref b4), .val (.int (2 : Int32)), .val (.int (0 : Int32)), .val (.ref a_RULE_1016_0_12)] [(.ref a_RULE_1016_0_12)])) rfl rfl (hb hby d_prog_16_method_4_28)
  have hp9 : ∀ c ∈ ([(49 : Int32), (48 : Int32), (49 : Int32), (54 : Int32), (45 : Int32), (48 : Int32), (46 : Int32), (49 : Int32), (50 : Int32)] : List Int32), ¬ c < 0 ∧ ¬ (255 : Int32) < c := (by decide)
  have hcd9 : StrChars.Road.CodA ([(49 : Int32), (48 : Int32), (49 : Int32), (54 : Int32), (45 : Int32), (48 : Int32), (46 : Int32), (49 : Int32), (50 : Int32)] : List Int32) 0 (9 : Int32) [(.int (49 : Int32)), (.int (48 : Int32)), (.int (49 : Int32)), (.int (54 : Int32)), (.int (45 : Int32)), (.int (48 : Int32)), (.int (46 : Int32)), (.int (49 : Int32)), (.int (50 : Int32))] := own_cod9
  have hbd9 : ∀ c ∈ ([(49 : Int32), (48 : Int32), (49 : Int32), (54 : Int32), (45 : Int32), (48 : Int32), (46 : Int32), (49 : Int32), (50 : Int32)] : List Int32), ¬ c < 0 ∧ ¬ (65535 : Int32) < c := own_up (cs := ([(49 : Int32), (48 : Int32), (49 : Int32), (54 : Int32), (45 : Int32), (48 : Int32), (46 : Int32), (49 : Int32), (50 : Int32)] : List Int32)) hp9
  have hp10 : ∀ c ∈ ([(49 : Int32), (48 : Int32), (49 : Int32), (54 : Int32), (45 : Int32), (48 : Int32), (46 : Int32), (49 : Int32), (50 : Int32)] : List Int32), ¬ c < 0 ∧ ¬ (255 : Int32) < c := (by decide)
  have hcd10 : StrChars.Road.CodA ([(49 : Int32), (48 : Int32), (49 : Int32), (54 : Int32), (45 : Int32), (48 : Int32), (46 : Int32), (49 : Int32), (50 : Int32)] : List Int32) 0 (9 : Int32) vs := hcod
  have hbd10 : ∀ c ∈ ([(49 : Int32), (48 : Int32), (49 : Int32), (54 : Int32), (45 : Int32), (48 : Int32), (46 : Int32), (49 : Int32), (50 : Int32)] : List Int32), ¬ c < 0 ∧ ¬ (65535 : Int32) < c := own_up (cs := ([(49 : Int32), (48 : Int32), (49 : Int32), (54 : Int32), (45 : Int32), (48 : Int32), (46 : Int32), (49 : Int32), (50 : Int32)] : List Int32)) hp10
  have f11 := ((Ex.ext E1).keep Kq3)
  have f12 := ((Fv.ext E1).keep Kq3 nin0)
  have f13 := ((Fc.ext E1).keep Kq3 nin0)
  have f14 := ((At.ext E1).keep Kq3 nin0)
  obtain ⟨cq15, kq15, q15a, q15b, q15c⟩ := isOf hZ1 e8 (E_a_RULE_1016_0_12_text.ext O3.2)
  obtain ⟨_, _, ⟨T15, L15, k15, n15⟩, -, X15, ⟨Lc15, hQ15, l15, y15, z15⟩, st15⟩ := X8.virtualBack hx (y := (⟨"java/lang/String", "equals", "(Ljava/lang/Object;)Z"⟩ : MethodName)) (z := (⟨"java/lang/String", "equals", "(Ljava/lang/Object;)Z"⟩ : MethodName)) hown1 (mvT hZ1 (tw62 hw)) (mvT hZ1 (tw63 hw)) (notFace_of_selects (args := #[]) (mvT hZ1 (tw65 hw))) (mvT hZ1 (tw65 hw)) (mvT hZ1 (tw64 hw)) (by decide) (StrChars.Road.eqW (W := 0) hZ1 (own_hwe hw) (kI := 4) (tw6 hw) (E_a_RULE_1016_0_12_text.ext O3.2) (F_a_RULE_1016_0_12_text_value.ext O3.2) (F_a_RULE_1016_0_12_text_coder.ext O3.2) (A_a_RULE_1016_0_12_text_value.ext O3.2) hcd9 hbd9 (Nat.le_of_ble_eq_true rfl) f11 f12 f13 f14 hcd10 hbd10 (Nat.le_of_ble_eq_true rfl) (Scz.ext O3.2) hcz (by decide) (by decide)) q15a q15c (g := (mkF m 32 #[.val (.ref x), .val (.ref b4), .val (.int (2 : Int32)), .val (.int (0 : Int32)), .val (.ref a_RULE_1016_0_12)] [(.ref x), (.ref a_RULE_1016_0_12_text)])) rfl (by rw [hml]; rfl) (Steps.refl _) (argsL := [(.ref x)]) (rest := []) (lenOf pd2 rfl) rfl (by show 2 * 0 + _ ≤ _; exact Nat.le_of_eq rfl) (hb hby d_prog_16_method_4_32) (fun _ _ => ⟨rfl, e8, (by decide : 3 + 0 ≤ _), (by decide : 58 + 0 ≤ _)⟩)
  dsimp only [Pt.U, Pt.locs, Pt.cells, Pt.slots] at X15 l15 y15 z15 st15 hQ15
  subst l15 y15 z15
  obtain ⟨hv15, rfl, Kq15⟩ := hQ15
  have hv15 : _ = some (Value.int (1 : Int32)) := hv15.elim (fun q => q.1) (fun q => absurd (rfl : ([(49 : Int32), (48 : Int32), (49 : Int32), (54 : Int32), (45 : Int32), (48 : Int32), (46 : Int32), (49 : Int32), (50 : Int32)] : List Int32) = ([(49 : Int32), (48 : Int32), (49 : Int32), (54 : Int32), (45 : Int32), (48 : Int32), (46 : Int32), (49 : Int32), (50 : Int32)] : List Int32)) q.2)
  subst hv15
  have N15q := Fr.nil n0
  have N15 := Fr.app N3 N15q
  have S16 : ∀ t_, Steps p.tables e below (T15.setTop (mkF m 40 #[.val (.ref x), .val (.ref b4), .val (.int (2 : Int32)), .val (.int (0 : Int32)), .val (.ref a_RULE_1016_0_12)] [(.ref a_RULE_1016_0_12)])) t_ → Steps p.tables e below (s₁.setTop (entryFrame m #[(.ref x)] 5)) t_ := by
    intro t_ k_
    refine S0 t_ ?_
    show Steps p.tables e below (s₁.setTop (mkF m 0 #[.val (.ref x), .unset, .unset, .unset, .unset] [])) _
    refine XS.aloadN X0.here hx rfl (hb hby d_prog_16_method_4_0) rfl rfl ?_
    show Steps p.tables e below (s₁.setTop (mkF m 1 #[.val (.ref x), .unset, .unset, .unset, .unset] [(.ref x)])) _
    refine st1 _ ?_
    show Steps p.tables e below (T1.setTop (mkF m 3 #[.val (.ref x), .unset, .unset, .unset, .unset] [(.ref a1), (.ref x)])) _
    refine st2 _ ?_
    show Steps p.tables e below (T2.setTop (mkF m 6 #[.val (.ref x), .unset, .unset, .unset, .unset] [(.ref x)])) _
    refine XS.pop X2.here hx rfl (hb hby d_prog_16_method_4_6) rfl rfl ?_
    show Steps p.tables e below (T2.setTop (mkF m 7 #[.val (.ref x), .unset, .unset, .unset, .unset] [])) _
    refine st3 _ ?_
    show Steps p.tables e below (T3.setTop (mkF m 10 #[.val (.ref x), .unset, .unset, .unset, .unset] [(.ref b4)])) _
    refine XS.astoreN X3.here hx rfl (hb hby d_prog_16_method_4_10) rfl rfl (l' := #[.val (.ref x), .val (.ref b4), .unset, .unset, .unset]) rfl ?_
    show Steps p.tables e below (T3.setTop (mkF m 11 #[.val (.ref x), .val (.ref b4), .unset, .unset, .unset] [])) _
    refine XS.aloadN X3.here hx rfl (hb hby d_prog_16_method_4_11) rfl rfl ?_
    show Steps p.tables e below (T3.setTop (mkF m 12 #[.val (.ref x), .val (.ref b4), .unset, .unset, .unset] [(.ref b4)])) _
    refine X3.arraylength hx Ar6.1 (State.isArrayOf_alike hZ1.alike Ar6.2.1) (g := (mkF m 12 #[.val (.ref x), .val (.ref b4), .unset, .unset, .unset] [(.ref b4)])) rfl rfl (hb hby d_prog_16_method_4_12) _ ?_
    rw [len_of Sz6 Nn6]
    show Steps p.tables e below (T3.setTop (mkF m 13 #[.val (.ref x), .val (.ref b4), .unset, .unset, .unset] [(.int (2 : Int32))])) _
    refine XS.istoreN X3.here hx rfl (hb hby d_prog_16_method_4_13) rfl (l' := #[.val (.ref x), .val (.ref b4), .val (.int (2 : Int32)), .unset, .unset]) rfl ?_
    show Steps p.tables e below (T3.setTop (mkF m 14 #[.val (.ref x), .val (.ref b4), .val (.int (2 : Int32)), .unset, .unset] [])) _
    refine XT.iconstV X3.here hx rfl (0 : Int32) (hb hby d_prog_16_method_4_14) (by decide) ?_
    show Steps p.tables e below (T3.setTop (mkF m 15 #[.val (.ref x), .val (.ref b4), .val (.int (2 : Int32)), .unset, .unset] [(.int (0 : Int32))])) _
    refine XS.istoreN X3.here hx rfl (hb hby d_prog_16_method_4_15) rfl (l' := #[.val (.ref x), .val (.ref b4), .val (.int (2 : Int32)), .val (.int (0 : Int32)), .unset]) rfl ?_
    show Steps p.tables e below (T3.setTop (mkF m 16 #[.val (.ref x), .val (.ref b4), .val (.int (2 : Int32)), .val (.int (0 : Int32)), .unset] [])) _
    refine XS.iloadN X3.here hx rfl (hb hby d_prog_16_method_4_16) rfl ?_
    show Steps p.tables e below (T3.setTop (mkF m 17 #[.val (.ref x), .val (.ref b4), .val (.int (2 : Int32)), .val (.int (0 : Int32)), .unset] [(.int (0 : Int32))])) _
    refine XS.iloadN X3.here hx rfl (hb hby d_prog_16_method_4_17) rfl ?_
    show Steps p.tables e below (T3.setTop (mkF m 18 #[.val (.ref x), .val (.ref b4), .val (.int (2 : Int32)), .val (.int (0 : Int32)), .unset] [(.int (2 : Int32)), (.int (0 : Int32))])) _
    refine XS.icmpNo X3.here hx rfl (hb hby d_prog_16_method_4_18) rfl (by decide) ?_
    show Steps p.tables e below (T3.setTop (mkF m 21 #[.val (.ref x), .val (.ref b4), .val (.int (2 : Int32)), .val (.int (0 : Int32)), .unset] [])) _
    refine XS.aloadN X3.here hx rfl (hb hby d_prog_16_method_4_21) rfl rfl ?_
    show Steps p.tables e below (T3.setTop (mkF m 22 #[.val (.ref x), .val (.ref b4), .val (.int (2 : Int32)), .val (.int (0 : Int32)), .unset] [(.ref b4)])) _
    refine XS.iloadN X3.here hx rfl (hb hby d_prog_16_method_4_22) rfl ?_
    show Steps p.tables e below (T3.setTop (mkF m 23 #[.val (.ref x), .val (.ref b4), .val (.int (2 : Int32)), .val (.int (0 : Int32)), .unset] [(.int (0 : Int32)), (.ref b4)])) _
    refine X3.aaload hx (j := (0 : Int32)) (v := (.ref a_RULE_1016_0_12)) Ar7.1 (State.isArrayOf_alike hZ1.alike Ar7.2.1) rfl Ar7.2.2 hin7 hat7 (g := (mkF m 23 #[.val (.ref x), .val (.ref b4), .val (.int (2 : Int32)), .val (.int (0 : Int32)), .unset] [(.int (0 : Int32)), (.ref b4)])) rfl rfl (hb hby d_prog_16_method_4_23) _ ?_
    show Steps p.tables e below (T3.setTop (mkF m 24 #[.val (.ref x), .val (.ref b4), .val (.int (2 : Int32)), .val (.int (0 : Int32)), .unset] [(.ref a_RULE_1016_0_12)])) _
    refine XS.astore X3.here hx rfl (hb hby d_prog_16_method_4_24) rfl rfl (l' := #[.val (.ref x), .val (.ref b4), .val (.int (2 : Int32)), .val (.int (0 : Int32)), .val (.ref a_RULE_1016_0_12)]) rfl ?_
    show Steps p.tables e below (T3.setTop (mkF m 26 #[.val (.ref x), .val (.ref b4), .val (.int (2 : Int32)), .val (.int (0 : Int32)), .val (.ref a_RULE_1016_0_12)] [])) _
    refine XS.aload X3.here hx rfl (hb hby d_prog_16_method_4_26) rfl rfl ?_
    show Steps p.tables e below (T3.setTop (mkF m 28 #[.val (.ref x), .val (.ref b4), .val (.int (2 : Int32)), .val (.int (0 : Int32)), .val (.ref a_RULE_1016_0_12)] [(.ref a_RULE_1016_0_12)])) _
    refine st8 _ ?_
    show Steps p.tables e below (T8.setTop (mkF m 31 #[.val (.ref x), .val (.ref b4), .val (.int (2 : Int32)), .val (.int (0 : Int32)), .val (.ref a_RULE_1016_0_12)] [(.ref a_RULE_1016_0_12_text)])) _
    refine XS.aloadN X8.here hx rfl (hb hby d_prog_16_method_4_31) rfl rfl ?_
    show Steps p.tables e below (T8.setTop (mkF m 32 #[.val (.ref x), .val (.ref b4), .val (.int (2 : Int32)), .val (.int (0 : Int32)), .val (.ref a_RULE_1016_0_12)] [(.ref x), (.ref a_RULE_1016_0_12_text)])) _
    refine st15.trans ?_
    show Steps p.tables e below (T15.setTop (mkF m 35 #[.val (.ref x), .val (.ref b4), .val (.int (2 : Int32)), .val (.int (0 : Int32)), .val (.ref a_RULE_1016_0_12)] [(.int (1 : Int32))])) _
    refine XS.ifNo X15.here hx rfl (hb hby d_prog_16_method_4_35) rfl (by decide) ?_
    show Steps p.tables e below (T15.setTop (mkF m 38 #[.val (.ref x), .val (.ref b4), .val (.int (2 : Int32)), .val (.int (0 : Int32)), .val (.ref a_RULE_1016_0_12)] [])) _
    refine XS.aload X15.here hx rfl (hb hby d_prog_16_method_4_38) rfl rfl ?_
    exact k_
  obtain ⟨fs, hr, hrun, hended, hRW⟩ := X15.leaveW hS1 (by rw [Kq15]; omega) (v := (some (.ref a_RULE_1016_0_12))) (fun h => by rw [Bd.returns] at h; cases h)
  refine ⟨_, _, S16 _ ((retOut X15 hx Bd.returns rfl (Or.inr (Or.inr (Or.inr (Or.inr ⟨rfl, rfl, rfl⟩)))) (hb hby d_prog_16_method_4_40) hr)), hrun, hended, _, _, rfl, ?_, hRW.1, hRW.2.1, hRW.2.2.1, hRW.2.2.2.mono (by decide) (by decide)⟩
  show Q_ofA Z x t kb vs a_RULE_1016_0_12 a_RULE_1014_8_0_114 a__VALUES a_RULE_1016_0_12_text a_RULE_1016_0_12_text_value a_RULE_1014_8_0_114_text a_RULE_1014_8_0_114_text_value k_a__VALUES k_a_RULE_1016_0_12_text_value k_a_RULE_1014_8_0_114_text_value cz h0 n0 _ T15.heap _
  rw [Kq15]
  exact ⟨rfl, N15, K3⟩
def Q_ofB (Z : State) (x : Nat) (t : Nat) (kb : ClassId) (vs : List Value) (a_RULE_1016_0_12 : Nat) (a_RULE_1014_8_0_114 : Nat) (a__VALUES : Nat) (a_RULE_1016_0_12_text : Nat) (a_RULE_1016_0_12_text_value : Nat) (a_RULE_1014_8_0_114_text : Nat) (a_RULE_1014_8_0_114_text_value : Nat) (k_a__VALUES : ClassId) (k_a_RULE_1016_0_12_text_value : ClassId) (k_a_RULE_1014_8_0_114_text_value : ClassId) (cz : Int32) (h0 : Heap) (n0 : Nat) (v : Option Value) (h : Heap) (L : List Loc) : Prop := v = some (.ref a_RULE_1014_8_0_114) ∧ Fr n0 L ∧ Keep h0 h []
theorem ef_ofB (m : MethodId) (x : Nat) (t : Nat) (kb : ClassId) (vs : List Value) (a_RULE_1016_0_12 : Nat) (a_RULE_1014_8_0_114 : Nat) (a__VALUES : Nat) (a_RULE_1016_0_12_text : Nat) (a_RULE_1016_0_12_text_value : Nat) (a_RULE_1014_8_0_114_text : Nat) (a_RULE_1014_8_0_114_text_value : Nat) (k_a__VALUES : ClassId) (k_a_RULE_1016_0_12_text_value : ClassId) (k_a_RULE_1014_8_0_114_text_value : ClassId) (cz : Int32) : entryFrame m #[(.ref x)] 5 = (mkF m 0 #[.val (.ref x), .unset, .unset, .unset, .unset] []) := by first | (simp [entryFrame, mkF, argsToLocals, Value.category]; done) | rfl
set_option maxRecDepth 65536 in
set_option maxHeartbeats 40000000 in
theorem rm_ofB (l : Launch) (Z : State) (a0 : Array Value) (hw : ∀ d ∈ tables_1, d.before a0 Z = true) (ws : List Jvm.Cond) (x : Nat) (t : Nat) (kb : ClassId) (vs : List Value) (a_RULE_1016_0_12 : Nat) (a_RULE_1014_8_0_114 : Nat) (a__VALUES : Nat) (a_RULE_1016_0_12_text : Nat) (a_RULE_1016_0_12_text_value : Nat) (a_RULE_1014_8_0_114_text : Nat) (a_RULE_1014_8_0_114_text_value : Nat) (k_a__VALUES : ClassId) (k_a_RULE_1016_0_12_text_value : ClassId) (k_a_RULE_1014_8_0_114_text_value : ClassId) (cz : Int32) (h0 : Heap) (n0 : Nat) (Z0 : n0 ≤ h0.size) (O0 : Old Z n0 h0) (Ex : Exa Z h0 x "java/lang/String") (Fv : Fld Z h0 x "java/lang/String" "value" "[B" (.ref t)) (Fc : Fld Z h0 x "java/lang/String" "coder" "B" (.int (0 : Int32))) (At : Arv Z h0 t kb .byte (12 : Int32) vs (.int (0 : Int32))) (hcod : StrChars.Road.CodA ([(49 : Int32), (48 : Int32), (49 : Int32), (52 : Int32), (46 : Int32), (56 : Int32), (45 : Int32), (48 : Int32), (46 : Int32), (49 : Int32), (49 : Int32), (52 : Int32)] : List Int32) 0 (12 : Int32) vs) (S_RULE_1016_0_12 : Sta Z Z.heap "com/example/kwhconv/kwhconv/PressureRule" "RULE_1016_0_12" "Lcom/example/kwhconv/kwhconv/PressureRule;" (.ref a_RULE_1016_0_12)) (E_a_RULE_1016_0_12 : Exa Z Z.heap a_RULE_1016_0_12 "com/example/kwhconv/kwhconv/PressureRule") (S_RULE_1014_8_0_114 : Sta Z Z.heap "com/example/kwhconv/kwhconv/PressureRule" "RULE_1014_8_0_114" "Lcom/example/kwhconv/kwhconv/PressureRule;" (.ref a_RULE_1014_8_0_114)) (E_a_RULE_1014_8_0_114 : Exa Z Z.heap a_RULE_1014_8_0_114 "com/example/kwhconv/kwhconv/PressureRule") (S__VALUES : Sta Z Z.heap "com/example/kwhconv/kwhconv/PressureRule" "$VALUES" "[Lcom/example/kwhconv/kwhconv/PressureRule;" (.ref a__VALUES)) (E_a__VALUES : Exa Z Z.heap a__VALUES "[Lcom/example/kwhconv/kwhconv/PressureRule;") (F_a_RULE_1016_0_12_text : Fld Z Z.heap a_RULE_1016_0_12 "com/example/kwhconv/kwhconv/PressureRule" "text" "Ljava/lang/String;" (.ref a_RULE_1016_0_12_text)) (E_a_RULE_1016_0_12_text : Exa Z Z.heap a_RULE_1016_0_12_text "java/lang/String") (F_a_RULE_1016_0_12_text_coder : Fld Z Z.heap a_RULE_1016_0_12_text "java/lang/String" "coder" "B" (.int (0 : Int32))) (F_a_RULE_1016_0_12_text_value : Fld Z Z.heap a_RULE_1016_0_12_text "java/lang/String" "value" "[B" (.ref a_RULE_1016_0_12_text_value)) (F_a_RULE_1016_0_12_ordinal : Fld Z Z.heap a_RULE_1016_0_12 "java/lang/Enum" "ordinal" "I" (.int (0 : Int32))) (F_a_RULE_1014_8_0_114_ordinal : Fld Z Z.heap a_RULE_1014_8_0_114 "java/lang/Enum" "ordinal" "I" (.int (1 : Int32))) (F_a_RULE_1014_8_0_114_text : Fld Z Z.heap a_RULE_1014_8_0_114 "com/example/kwhconv/kwhconv/PressureRule" "text" "Ljava/lang/String;" (.ref a_RULE_1014_8_0_114_text)) (E_a_RULE_1014_8_0_114_text : Exa Z Z.heap a_RULE_1014_8_0_114_text "java/lang/String") (F_a_RULE_1014_8_0_114_text_coder : Fld Z Z.heap a_RULE_1014_8_0_114_text "java/lang/String" "coder" "B" (.int (0 : Int32))) (F_a_RULE_1014_8_0_114_text_value : Fld Z Z.heap a_RULE_1014_8_0_114_text "java/lang/String" "value" "[B" (.ref a_RULE_1014_8_0_114_text_value)) (A_a__VALUES : Arv Z Z.heap a__VALUES k_a__VALUES (.object "com/example/kwhconv/kwhconv/PressureRule") (2 : Int32) [(.ref a_RULE_1016_0_12), (.ref a_RULE_1014_8_0_114)] .null) (A_a_RULE_1016_0_12_text_value : Arv Z Z.heap a_RULE_1016_0_12_text_value k_a_RULE_1016_0_12_text_value .byte (9 : Int32) [(.int (49 : Int32)), (.int (48 : Int32)), (.int (49 : Int32)), (.int (54 : Int32)), (.int (45 : Int32)), (.int (48 : Int32)), (.int (46 : Int32)), (.int (49 : Int32)), (.int (50 : Int32))] (.int (0 : Int32))) (A_a_RULE_1014_8_0_114_text_value : Arv Z Z.heap a_RULE_1014_8_0_114_text_value k_a_RULE_1014_8_0_114_text_value .byte (12 : Int32) [(.int (49 : Int32)), (.int (48 : Int32)), (.int (49 : Int32)), (.int (52 : Int32)), (.int (46 : Int32)), (.int (56 : Int32)), (.int (45 : Int32)), (.int (48 : Int32)), (.int (46 : Int32)), (.int (49 : Int32)), (.int (49 : Int32)), (.int (52 : Int32))] (.int (0 : Int32))) (Scz : Sta Z Z.heap "java/lang/String" "COMPACT_STRINGS" "Z" (.int cz)) (hcz : ¬ cz = (0 : Int32)) :
    MetFree l (⟨"com/example/kwhconv/kwhconv/PressureRule", "of", "(Ljava/lang/String;)Lcom/example/kwhconv/kwhconv/PressureRule;"⟩ : MethodName) (head1 (Jvm.Cond.code (⟨"com/example/kwhconv/kwhconv/PressureRule", "of", "(Ljava/lang/String;)Lcom/example/kwhconv/kwhconv/PressureRule;"⟩ : MethodName) prog_16_method_4_code 5 (some (.object "com/example/kwhconv/kwhconv/PressureRule")) :: ws) ({ frames := 2, cells := 3, slots := 58, locals := 28 } : Room)) (fun a_ U_ => a_ = #[(.ref x)] ∧ Z.Warmed39 U_.vm ∧ U_.heap = h0) (fun _ _ _ _ _ => True) (fun _ U_ o_ U'_ => ∃ v_ L_, o_ = .returned v_ ∧ Q_ofB Z x t kb vs a_RULE_1016_0_12 a_RULE_1014_8_0_114 a__VALUES a_RULE_1016_0_12_text a_RULE_1016_0_12_text_value a_RULE_1014_8_0_114_text a_RULE_1014_8_0_114_text_value k_a__VALUES k_a_RULE_1016_0_12_text_value k_a_RULE_1014_8_0_114_text_value cz h0 n0 v_ U'_.heap L_ ∧ ReturnedEndW U_ o_ U'_ L_ ({ frames := 2, cells := 3, slots := 58, locals := 28 } : Room).cells ({ frames := 2, cells := 3, slots := 58, locals := 28 } : Room).slots) := by
  refine MetFree.of_bodySF (plainFor_of_name pn0) hisR ?_
  intro p e s m args below meth c s₁ Bd hml0 hP hK
  obtain ⟨rfl, hZ, hh⟩ := hP
  have hx := Bd.exec
  have hby := Bd.bytes
  have hml : c.maxLocals = 5 := hml0
  have hown : s.vm.findClass "com/example/kwhconv/kwhconv/PressureRule" = some m.cls := findClass_of_methodNamed Bd.named
  have hnm := (name_of_methodNamed Bd.named Bd.method).1
  have X0 : Stand p l e ({ frames := 2, cells := 3, slots := 58, locals := 28 } : Room) (s.setVm s.vm) m #[(.ref x)] below meth c s₁ [] 0 0 := Stand.of_body Bd
  have e0 : s₁.heap = h0 := by rw [← hh, Bd.state]; rfl
  have N0 := Fr.nil n0
  have oz : Z.heap.size = n0 := O0.1
  have S0 : ∀ t_, Steps p.tables e below (s₁.setTop (mkF m 0 #[.val (.ref x), .unset, .unset, .unset, .unset] [])) t_ → Steps p.tables e below (s₁.setTop (entryFrame m #[(.ref x)] 5)) t_ := fun t_ k_ => castTop (ef_ofB m x t kb vs a_RULE_1016_0_12 a_RULE_1014_8_0_114 a__VALUES a_RULE_1016_0_12_text a_RULE_1016_0_12_text_value a_RULE_1014_8_0_114_text a_RULE_1014_8_0_114_text_value k_a__VALUES k_a_RULE_1016_0_12_text_value k_a_RULE_1014_8_0_114_text_value cz) k_
  have K0 := Keep.refl h0 []
  have hS0 : s.Since s.vm 0 := (State.WarmedH.refl s).since 0
  have hZ0 : Z.Warmed39 (s.setVm s.vm).vm := hZ
  have hown0 : (s.setVm s.vm).vm.findClass "com/example/kwhconv/kwhconv/PressureRule" = some m.cls := hown
  have hk0 : 0 ≤ h0.size := Nat.zero_le _
  have hsh : s.heap = h0 := hh
  have lt_x : (x : Nat) < (h0.size : Nat) := Ex.lt
  have lt_t : (t : Nat) < (h0.size : Nat) := At.lt
  have lt_a_RULE_1016_0_12 : (a_RULE_1016_0_12 : Nat) < (Z.heap.size : Nat) := E_a_RULE_1016_0_12.lt
  have lt_a_RULE_1014_8_0_114 : (a_RULE_1014_8_0_114 : Nat) < (Z.heap.size : Nat) := E_a_RULE_1014_8_0_114.lt
  have lt_a__VALUES : (a__VALUES : Nat) < (Z.heap.size : Nat) := E_a__VALUES.lt
  have lt_a_RULE_1016_0_12_text : (a_RULE_1016_0_12_text : Nat) < (Z.heap.size : Nat) := E_a_RULE_1016_0_12_text.lt
  have lt_a_RULE_1014_8_0_114_text : (a_RULE_1014_8_0_114_text : Nat) < (Z.heap.size : Nat) := E_a_RULE_1014_8_0_114_text.lt
  have lt_a_RULE_1016_0_12_text_value : (a_RULE_1016_0_12_text_value : Nat) < (Z.heap.size : Nat) := A_a_RULE_1016_0_12_text_value.lt
  have lt_a_RULE_1014_8_0_114_text_value : (a_RULE_1014_8_0_114_text_value : Nat) < (Z.heap.size : Nat) := A_a_RULE_1014_8_0_114_text_value.lt
  obtain ⟨a1, T1, h1, k1, X1, e1, E1, hS1, hk1, hZ1, hown1, st1⟩ := ldcS X0 hx hZ0 hown0 (tw38 hw) (own_hwS hw) e0 hS0 (by omega) (g := (mkF m 1 #[.val (.ref x), .unset, .unset, .unset, .unset] [(.ref x)])) rfl (hb hby d_prog_16_method_4_1) (n := 52) (by decide) (by decide) (by decide) (by decide)
  have z1 := E1.1
  have K1 := K0.ext E1
  have O1 := O0.ext E1
  obtain ⟨_, _, ⟨T2, L2, k2, n2⟩, -, X2, ⟨Lc2, hQ2, l2, y2, z2⟩, st2⟩ := Jvm.LawKit.callS X1 hx (y := (⟨"java/util/Objects", "requireNonNull", "(Ljava/lang/Object;Ljava/lang/String;)Ljava/lang/Object;"⟩ : MethodName)) hown1 (mvT hZ1 (tw41 hw)) (mvT hZ1 (tw42 hw)) (mvT hZ1 (tw43 hw)) (mvT hZ1 (tw44 hw)) (by decide) (backOf (W := 0) (rm_rnn l Z a0 hw [] x a1 h1 n0 (by omega) O1 ) hZ1 (tw44 hw) (tw43 hw) (by decide) (by decide)) (g := (mkF m 3 #[.val (.ref x), .unset, .unset, .unset, .unset] [(.ref a1), (.ref x)])) rfl (by rw [hml]; rfl) (argsL := [(.ref x), (.ref a1)]) (rest := []) (lenOf pd0 rfl) rfl (by show 2 * 0 + _ ≤ _; exact Nat.le_of_eq rfl) (hb hby d_prog_16_method_4_3) (fun _ _ => ⟨rfl, e1, (by decide : 2 + 0 ≤ _), (by decide : 56 + 0 ≤ _)⟩)
  dsimp only [Pt.U, Pt.locs, Pt.cells, Pt.slots] at X2 l2 y2 z2 st2 hQ2
  subst l2 y2 z2
  obtain ⟨rfl, N2q, Kq2⟩ := hQ2
  have N2 := Fr.app N0 N2q
  obtain ⟨_, _, ⟨T3, L3, k3, n3⟩, -, X3, ⟨Lc3, hQ3, l3, y3, z3⟩, st3⟩ := Jvm.LawKit.callS X2 hx (y := (⟨"com/example/kwhconv/kwhconv/PressureRule", "values", "()[Lcom/example/kwhconv/kwhconv/PressureRule;"⟩ : MethodName)) hown1 (mvT hZ1 (tw45 hw)) (mvT hZ1 (tw46 hw)) (mvT hZ1 (tw1 hw)) (mvT hZ1 (tw47 hw)) (by decide) (backOf (W := 0) (rm_vals l Z a0 hw [] a_RULE_1016_0_12 a_RULE_1014_8_0_114 a__VALUES k_a__VALUES h1 n0 (by omega) O1 S__VALUES E_a__VALUES A_a__VALUES) hZ1 (tw47 hw) (tw1 hw) (by decide) (by decide)) (g := (mkF m 7 #[.val (.ref x), .unset, .unset, .unset, .unset] [])) rfl (by rw [hml]; rfl) (argsL := []) (rest := []) (lenOf pd1 rfl) rfl (by show 2 * 0 + _ ≤ _; exact Nat.le_of_eq rfl) (hb hby d_prog_16_method_4_7) (fun _ _ => ⟨rfl, Kq2, (by decide : 2 + 1 ≤ _), (by decide : 56 + 2 ≤ _)⟩)
  dsimp only [Pt.U, Pt.locs, Pt.cells, Pt.slots] at X3 l3 y3 z3 st3 hQ3
  subst l3 y3 z3
  obtain ⟨b4, rfl, N3q, Kq3, p3_0, p3_1⟩ := hQ3
  have N3 := Fr.app N2 N3q
  have z3 := Kq3.1
  have K3 := K1.trans Kq3 all0
  have O3 := O1.keep Kq3 all0
  have lq5 : (b4 : Nat) < (T3.heap.size : Nat) := p3_0.lt
  obtain ⟨cl6, Ar6, q6, Sz6, Nn6, H6, G6⟩ := id p3_0
  obtain ⟨cl7, Ar7, q7, Sz7, Nn7, H7, G7⟩ := id p3_0
  have hin7 : ¬ ((0 : Int32) < 0 ∨ cl7.slots.size ≤ ((0 : Int32)).toNatClampNeg) := inb_of Sz7 ⟨by decide, by decide⟩
  have hat7 : cl7.slots[((0 : Int32)).toNatClampNeg]? = some (.ref a_RULE_1016_0_12) := H7.at hin7 rfl
  obtain ⟨T8, X8, e8, st8⟩ := getF X3 hx hZ1 hown1 (host := "") (Or.inl (tw60 hw)) Via.refl rfl (F_a_RULE_1016_0_12_text.ext O3.2) (g := (mkF m 28 #[.val (.ref x), .val (.ref b4), .val (.int (2 : Int32)), .val (.int (0 : Int32)), .val (.ref a_RULE_1016_0_12)] [(.ref a_RULE_1016_0_12)])) rfl rfl (hb hby d_prog_16_method_4_28)
  have hp9 : ∀ c ∈ ([(49 : Int32), (48 : Int32), (49 : Int32), (54 : Int32), (45 : Int32), (48 : Int32), (46 : Int32), (49 : Int32), (50 : Int32)] : List Int32), ¬ c < 0 ∧ ¬ (255 : Int32) < c := (by decide)
  have hcd9 : StrChars.Road.CodA ([(49 : Int32), (48 : Int32), (49 : Int32), (54 : Int32), (45 : Int32), (48 : Int32), (46 : Int32), (49 : Int32), (50 : Int32)] : List Int32) 0 (9 : Int32) [(.int (49 : Int32)), (.int (48 : Int32)), (.int (49 : Int32)), (.int (54 : Int32)), (.int (45 : Int32)), (.int (48 : Int32)), (.int (46 : Int32)), (.int (49 : Int32)), (.int (50 : Int32))] := own_cod9
  have hbd9 : ∀ c ∈ ([(49 : Int32), (48 : Int32), (49 : Int32), (54 : Int32), (45 : Int32), (48 : Int32), (46 : Int32), (49 : Int32), (50 : Int32)] : List Int32), ¬ c < 0 ∧ ¬ (65535 : Int32) < c := own_up (cs := ([(49 : Int32), (48 : Int32), (49 : Int32), (54 : Int32), (45 : Int32), (48 : Int32), (46 : Int32), (49 : Int32), (50 : Int32)] : List Int32)) hp9
  have hp10 : ∀ c ∈ ([(49 : Int32), (48 : Int32), (49 : Int32), (52 : Int32), (46 : Int32), (56 : Int32), (45 : Int32), (48 : Int32), (46 : Int32), (49 : Int32), (49 : Int32), (52 : Int32)] : List Int32), ¬ c < 0 ∧ ¬ (255 : Int32) < c := (by decide)
  have hcd10 : StrChars.Road.CodA ([(49 : Int32), (48 : Int32), (49 : Int32), (52 : Int32), (46 : Int32), (56 : Int32), (45 : Int32), (48 : Int32), (46 : Int32), (49 : Int32), (49 : Int32), (52 : Int32)] : List Int32) 0 (12 : Int32) vs := hcod
  have hbd10 : ∀ c ∈ ([(49 : Int32), (48 : Int32), (49 : Int32), (52 : Int32), (46 : Int32), (56 : Int32), (45 : Int32), (48 : Int32), (46 : Int32), (49 : Int32), (49 : Int32), (52 : Int32)] : List Int32), ¬ c < 0 ∧ ¬ (65535 : Int32) < c := own_up (cs := ([(49 : Int32), (48 : Int32), (49 : Int32), (52 : Int32), (46 : Int32), (56 : Int32), (45 : Int32), (48 : Int32), (46 : Int32), (49 : Int32), (49 : Int32), (52 : Int32)] : List Int32)) hp10
  have f11 := ((Ex.ext E1).keep Kq3)
  have f12 := ((Fv.ext E1).keep Kq3 nin0)
  have f13 := ((Fc.ext E1).keep Kq3 nin0)
  have f14 := ((At.ext E1).keep Kq3 nin0)
  obtain ⟨cq15, kq15, q15a, q15b, q15c⟩ := isOf hZ1 e8 (E_a_RULE_1016_0_12_text.ext O3.2)
  obtain ⟨_, _, ⟨T15, L15, k15, n15⟩, -, X15, ⟨Lc15, hQ15, l15, y15, z15⟩, st15⟩ := X8.virtualBack hx (y := (⟨"java/lang/String", "equals", "(Ljava/lang/Object;)Z"⟩ : MethodName)) (z := (⟨"java/lang/String", "equals", "(Ljava/lang/Object;)Z"⟩ : MethodName)) hown1 (mvT hZ1 (tw62 hw)) (mvT hZ1 (tw63 hw)) (notFace_of_selects (args := #[]) (mvT hZ1 (tw65 hw))) (mvT hZ1 (tw65 hw)) (mvT hZ1 (tw64 hw)) (by decide) (StrChars.Road.eqW (W := 0) hZ1 (own_hwe hw) (kI := 4) (tw6 hw) (E_a_RULE_1016_0_12_text.ext O3.2) (F_a_RULE_1016_0_12_text_value.ext O3.2) (F_a_RULE_1016_0_12_text_coder.ext O3.2) (A_a_RULE_1016_0_12_text_value.ext O3.2) hcd9 hbd9 (Nat.le_of_ble_eq_true rfl) f11 f12 f13 f14 hcd10 hbd10 (Nat.le_of_ble_eq_true rfl) (Scz.ext O3.2) hcz (by decide) (by decide)) q15a q15c (g := (mkF m 32 #[.val (.ref x), .val (.ref b4), .val (.int (2 : Int32)), .val (.int (0 : Int32)), .val (.ref a_RULE_1016_0_12)] [(.ref x), (.ref a_RULE_1016_0_12_text)])) rfl (by rw [hml]; rfl) (Steps.refl _) (argsL := [(.ref x)]) (rest := []) (lenOf pd2 rfl) rfl (by show 2 * 0 + _ ≤ _; exact Nat.le_of_eq rfl) (hb hby d_prog_16_method_4_32) (fun _ _ => ⟨rfl, e8, (by decide : 3 + 0 ≤ _), (by decide : 58 + 0 ≤ _)⟩)
  dsimp only [Pt.U, Pt.locs, Pt.cells, Pt.slots] at X15 l15 y15 z15 st15 hQ15
  subst l15 y15 z15
  obtain ⟨hv15, rfl, Kq15⟩ := hQ15
  have hv15 : _ = some (Value.int (0 : Int32)) := hv15.elim (fun q => absurd q.2 ((by decide) : ¬ ([(49 : Int32), (48 : Int32), (49 : Int32), (54 : Int32), (45 : Int32), (48 : Int32), (46 : Int32), (49 : Int32), (50 : Int32)] : List Int32) = ([(49 : Int32), (48 : Int32), (49 : Int32), (52 : Int32), (46 : Int32), (56 : Int32), (45 : Int32), (48 : Int32), (46 : Int32), (49 : Int32), (49 : Int32), (52 : Int32)] : List Int32))) (fun q => q.1)
  subst hv15
  have N15q := Fr.nil n0
  have N15 := Fr.app N3 N15q
  obtain ⟨cl16, Ar16, q16, Sz16, Nn16, H16, G16⟩ := id p3_0
  have hin16 : ¬ ((1 : Int32) < 0 ∨ cl16.slots.size ≤ ((1 : Int32)).toNatClampNeg) := inb_of Sz16 ⟨by decide, by decide⟩
  have hat16 : cl16.slots[((1 : Int32)).toNatClampNeg]? = some (.ref a_RULE_1014_8_0_114) := H16.at hin16 rfl
  obtain ⟨T17, X17, e17, st17⟩ := getF X15 hx hZ1 hown1 (host := "") (Or.inl (tw60 hw)) Via.refl Kq15 (F_a_RULE_1014_8_0_114_text.ext O3.2) (g := (mkF m 28 #[.val (.ref x), .val (.ref b4), .val (.int (2 : Int32)), .val (.int (1 : Int32)), .val (.ref a_RULE_1014_8_0_114)] [(.ref a_RULE_1014_8_0_114)])) rfl rfl (hb hby d_prog_16_method_4_28)
  have hp18 : ∀ c ∈ ([(49 : Int32), (48 : Int32), (49 : Int32), (52 : Int32), (46 : Int32), (56 : Int32), (45 : Int32), (48 : Int32), (46 : Int32), (49 : Int32), (49 : Int32), (52 : Int32)] : List Int32), ¬ c < 0 ∧ ¬ (255 : Int32) < c := (by decide)
  have hcd18 : StrChars.Road.CodA ([(49 : Int32), (48 : Int32), (49 : Int32), (52 : Int32), (46 : Int32), (56 : Int32), (45 : Int32), (48 : Int32), (46 : Int32), (49 : Int32), (49 : Int32), (52 : Int32)] : List Int32) 0 (12 : Int32) [(.int (49 : Int32)), (.int (48 : Int32)), (.int (49 : Int32)), (.int (52 : Int32)), (.int (46 : Int32)), (.int (56 : Int32)), (.int (45 : Int32)), (.int (48 : Int32)), (.int (46 : Int32)), (.int (49 : Int32)), (.int (49 : Int32)), (.int (52 : Int32))] := own_cod12
  have hbd18 : ∀ c ∈ ([(49 : Int32), (48 : Int32), (49 : Int32), (52 : Int32), (46 : Int32), (56 : Int32), (45 : Int32), (48 : Int32), (46 : Int32), (49 : Int32), (49 : Int32), (52 : Int32)] : List Int32), ¬ c < 0 ∧ ¬ (65535 : Int32) < c := own_up (cs := ([(49 : Int32), (48 : Int32), (49 : Int32), (52 : Int32), (46 : Int32), (56 : Int32), (45 : Int32), (48 : Int32), (46 : Int32), (49 : Int32), (49 : Int32), (52 : Int32)] : List Int32)) hp18
  obtain ⟨cq19, kq19, q19a, q19b, q19c⟩ := isOf hZ1 e17 (E_a_RULE_1014_8_0_114_text.ext O3.2)
  obtain ⟨_, _, ⟨T19, L19, k19, n19⟩, -, X19, ⟨Lc19, hQ19, l19, y19, z19⟩, st19⟩ := X17.virtualBack hx (y := (⟨"java/lang/String", "equals", "(Ljava/lang/Object;)Z"⟩ : MethodName)) (z := (⟨"java/lang/String", "equals", "(Ljava/lang/Object;)Z"⟩ : MethodName)) hown1 (mvT hZ1 (tw62 hw)) (mvT hZ1 (tw63 hw)) (notFace_of_selects (args := #[]) (mvT hZ1 (tw65 hw))) (mvT hZ1 (tw65 hw)) (mvT hZ1 (tw64 hw)) (by decide) (StrChars.Road.eqW (W := 0) hZ1 (own_hwe hw) (kI := 4) (tw6 hw) (E_a_RULE_1014_8_0_114_text.ext O3.2) (F_a_RULE_1014_8_0_114_text_value.ext O3.2) (F_a_RULE_1014_8_0_114_text_coder.ext O3.2) (A_a_RULE_1014_8_0_114_text_value.ext O3.2) hcd18 hbd18 (Nat.le_of_ble_eq_true rfl) f11 f12 f13 f14 hcd10 hbd10 (Nat.le_of_ble_eq_true rfl) (Scz.ext O3.2) hcz (by decide) (by decide)) q19a q19c (g := (mkF m 32 #[.val (.ref x), .val (.ref b4), .val (.int (2 : Int32)), .val (.int (1 : Int32)), .val (.ref a_RULE_1014_8_0_114)] [(.ref x), (.ref a_RULE_1014_8_0_114_text)])) rfl (by rw [hml]; rfl) (Steps.refl _) (argsL := [(.ref x)]) (rest := []) (lenOf pd2 rfl) rfl (by show 2 * 0 + _ ≤ _; exact Nat.le_of_eq rfl) (hb hby d_prog_16_method_4_32) (fun _ _ => ⟨rfl, e17, (by decide : 3 + 0 ≤ _), (by decide : 58 + 0 ≤ _)⟩)
  dsimp only [Pt.U, Pt.locs, Pt.cells, Pt.slots] at X19 l19 y19 z19 st19 hQ19
  subst l19 y19 z19
  obtain ⟨hv19, rfl, Kq19⟩ := hQ19
  have hv19 : _ = some (Value.int (1 : Int32)) := hv19.elim (fun q => q.1) (fun q => absurd (rfl : ([(49 : Int32), (48 : Int32), (49 : Int32), (52 : Int32), (46 : Int32), (56 : Int32), (45 : Int32), (48 : Int32), (46 : Int32), (49 : Int32), (49 : Int32), (52 : Int32)] : List Int32) = ([(49 : Int32), (48 : Int32), (49 : Int32), (52 : Int32), (46 : Int32), (56 : Int32), (45 : Int32), (48 : Int32), (46 : Int32), (49 : Int32), (49 : Int32), (52 : Int32)] : List Int32)) q.2)
  subst hv19
  have N19q := Fr.nil n0
  have N19 := Fr.app N15 N19q
  have S20 : ∀ t_, Steps p.tables e below (T19.setTop (mkF m 40 #[.val (.ref x), .val (.ref b4), .val (.int (2 : Int32)), .val (.int (1 : Int32)), .val (.ref a_RULE_1014_8_0_114)] [(.ref a_RULE_1014_8_0_114)])) t_ → Steps p.tables e below (s₁.setTop (entryFrame m #[(.ref x)] 5)) t_ := by
    intro t_ k_
    refine S0 t_ ?_
    show Steps p.tables e below (s₁.setTop (mkF m 0 #[.val (.ref x), .unset, .unset, .unset, .unset] [])) _
    refine XS.aloadN X0.here hx rfl (hb hby d_prog_16_method_4_0) rfl rfl ?_
    show Steps p.tables e below (s₁.setTop (mkF m 1 #[.val (.ref x), .unset, .unset, .unset, .unset] [(.ref x)])) _
    refine st1 _ ?_
    show Steps p.tables e below (T1.setTop (mkF m 3 #[.val (.ref x), .unset, .unset, .unset, .unset] [(.ref a1), (.ref x)])) _
    refine st2 _ ?_
    show Steps p.tables e below (T2.setTop (mkF m 6 #[.val (.ref x), .unset, .unset, .unset, .unset] [(.ref x)])) _
    refine XS.pop X2.here hx rfl (hb hby d_prog_16_method_4_6) rfl rfl ?_
    show Steps p.tables e below (T2.setTop (mkF m 7 #[.val (.ref x), .unset, .unset, .unset, .unset] [])) _
    refine st3 _ ?_
    show Steps p.tables e below (T3.setTop (mkF m 10 #[.val (.ref x), .unset, .unset, .unset, .unset] [(.ref b4)])) _
    refine XS.astoreN X3.here hx rfl (hb hby d_prog_16_method_4_10) rfl rfl (l' := #[.val (.ref x), .val (.ref b4), .unset, .unset, .unset]) rfl ?_
    show Steps p.tables e below (T3.setTop (mkF m 11 #[.val (.ref x), .val (.ref b4), .unset, .unset, .unset] [])) _
    refine XS.aloadN X3.here hx rfl (hb hby d_prog_16_method_4_11) rfl rfl ?_
    show Steps p.tables e below (T3.setTop (mkF m 12 #[.val (.ref x), .val (.ref b4), .unset, .unset, .unset] [(.ref b4)])) _
    refine X3.arraylength hx Ar6.1 (State.isArrayOf_alike hZ1.alike Ar6.2.1) (g := (mkF m 12 #[.val (.ref x), .val (.ref b4), .unset, .unset, .unset] [(.ref b4)])) rfl rfl (hb hby d_prog_16_method_4_12) _ ?_
    rw [len_of Sz6 Nn6]
    show Steps p.tables e below (T3.setTop (mkF m 13 #[.val (.ref x), .val (.ref b4), .unset, .unset, .unset] [(.int (2 : Int32))])) _
    refine XS.istoreN X3.here hx rfl (hb hby d_prog_16_method_4_13) rfl (l' := #[.val (.ref x), .val (.ref b4), .val (.int (2 : Int32)), .unset, .unset]) rfl ?_
    show Steps p.tables e below (T3.setTop (mkF m 14 #[.val (.ref x), .val (.ref b4), .val (.int (2 : Int32)), .unset, .unset] [])) _
    refine XT.iconstV X3.here hx rfl (0 : Int32) (hb hby d_prog_16_method_4_14) (by decide) ?_
    show Steps p.tables e below (T3.setTop (mkF m 15 #[.val (.ref x), .val (.ref b4), .val (.int (2 : Int32)), .unset, .unset] [(.int (0 : Int32))])) _
    refine XS.istoreN X3.here hx rfl (hb hby d_prog_16_method_4_15) rfl (l' := #[.val (.ref x), .val (.ref b4), .val (.int (2 : Int32)), .val (.int (0 : Int32)), .unset]) rfl ?_
    show Steps p.tables e below (T3.setTop (mkF m 16 #[.val (.ref x), .val (.ref b4), .val (.int (2 : Int32)), .val (.int (0 : Int32)), .unset] [])) _
    refine XS.iloadN X3.here hx rfl (hb hby d_prog_16_method_4_16) rfl ?_
    show Steps p.tables e below (T3.setTop (mkF m 17 #[.val (.ref x), .val (.ref b4), .val (.int (2 : Int32)), .val (.int (0 : Int32)), .unset] [(.int (0 : Int32))])) _
    refine XS.iloadN X3.here hx rfl (hb hby d_prog_16_method_4_17) rfl ?_
    show Steps p.tables e below (T3.setTop (mkF m 18 #[.val (.ref x), .val (.ref b4), .val (.int (2 : Int32)), .val (.int (0 : Int32)), .unset] [(.int (2 : Int32)), (.int (0 : Int32))])) _
    refine XS.icmpNo X3.here hx rfl (hb hby d_prog_16_method_4_18) rfl (by decide) ?_
    show Steps p.tables e below (T3.setTop (mkF m 21 #[.val (.ref x), .val (.ref b4), .val (.int (2 : Int32)), .val (.int (0 : Int32)), .unset] [])) _
    refine XS.aloadN X3.here hx rfl (hb hby d_prog_16_method_4_21) rfl rfl ?_
    show Steps p.tables e below (T3.setTop (mkF m 22 #[.val (.ref x), .val (.ref b4), .val (.int (2 : Int32)), .val (.int (0 : Int32)), .unset] [(.ref b4)])) _
    refine XS.iloadN X3.here hx rfl (hb hby d_prog_16_method_4_22) rfl ?_
    show Steps p.tables e below (T3.setTop (mkF m 23 #[.val (.ref x), .val (.ref b4), .val (.int (2 : Int32)), .val (.int (0 : Int32)), .unset] [(.int (0 : Int32)), (.ref b4)])) _
    refine X3.aaload hx (j := (0 : Int32)) (v := (.ref a_RULE_1016_0_12)) Ar7.1 (State.isArrayOf_alike hZ1.alike Ar7.2.1) rfl Ar7.2.2 hin7 hat7 (g := (mkF m 23 #[.val (.ref x), .val (.ref b4), .val (.int (2 : Int32)), .val (.int (0 : Int32)), .unset] [(.int (0 : Int32)), (.ref b4)])) rfl rfl (hb hby d_prog_16_method_4_23) _ ?_
    show Steps p.tables e below (T3.setTop (mkF m 24 #[.val (.ref x), .val (.ref b4), .val (.int (2 : Int32)), .val (.int (0 : Int32)), .unset] [(.ref a_RULE_1016_0_12)])) _
    refine XS.astore X3.here hx rfl (hb hby d_prog_16_method_4_24) rfl rfl (l' := #[.val (.ref x), .val (.ref b4), .val (.int (2 : Int32)), .val (.int (0 : Int32)), .val (.ref a_RULE_1016_0_12)]) rfl ?_
    show Steps p.tables e below (T3.setTop (mkF m 26 #[.val (.ref x), .val (.ref b4), .val (.int (2 : Int32)), .val (.int (0 : Int32)), .val (.ref a_RULE_1016_0_12)] [])) _
    refine XS.aload X3.here hx rfl (hb hby d_prog_16_method_4_26) rfl rfl ?_
    show Steps p.tables e below (T3.setTop (mkF m 28 #[.val (.ref x), .val (.ref b4), .val (.int (2 : Int32)), .val (.int (0 : Int32)), .val (.ref a_RULE_1016_0_12)] [(.ref a_RULE_1016_0_12)])) _
    refine st8 _ ?_
    show Steps p.tables e below (T8.setTop (mkF m 31 #[.val (.ref x), .val (.ref b4), .val (.int (2 : Int32)), .val (.int (0 : Int32)), .val (.ref a_RULE_1016_0_12)] [(.ref a_RULE_1016_0_12_text)])) _
    refine XS.aloadN X8.here hx rfl (hb hby d_prog_16_method_4_31) rfl rfl ?_
    show Steps p.tables e below (T8.setTop (mkF m 32 #[.val (.ref x), .val (.ref b4), .val (.int (2 : Int32)), .val (.int (0 : Int32)), .val (.ref a_RULE_1016_0_12)] [(.ref x), (.ref a_RULE_1016_0_12_text)])) _
    refine st15.trans ?_
    show Steps p.tables e below (T15.setTop (mkF m 35 #[.val (.ref x), .val (.ref b4), .val (.int (2 : Int32)), .val (.int (0 : Int32)), .val (.ref a_RULE_1016_0_12)] [(.int (0 : Int32))])) _
    refine XS.ifYes X15.here hx rfl (pc0 := 35) (pc' := 41) rfl (hb hby d_prog_16_method_4_35) rfl (by decide) (by decide) (by decide) ?_
    show Steps p.tables e below (T15.setTop (mkF m 41 #[.val (.ref x), .val (.ref b4), .val (.int (2 : Int32)), .val (.int (0 : Int32)), .val (.ref a_RULE_1016_0_12)] [])) _
    refine own_op_iinc X15.here hx rfl (1 : Int32) (hb hby d_prog_16_method_4_41) (by decide) rfl (z := (1 : Int32)) (by decide) (l' := #[.val (.ref x), .val (.ref b4), .val (.int (2 : Int32)), .val (.int (1 : Int32)), .val (.ref a_RULE_1016_0_12)]) rfl ?_
    show Steps p.tables e below (T15.setTop (mkF m 44 #[.val (.ref x), .val (.ref b4), .val (.int (2 : Int32)), .val (.int (1 : Int32)), .val (.ref a_RULE_1016_0_12)] [])) _
    refine XS.goto X15.here hx rfl (pc0 := 44) (pc' := 16) rfl (hb hby d_prog_16_method_4_44) (by decide) (by decide) ?_
    show Steps p.tables e below (T15.setTop (mkF m 16 #[.val (.ref x), .val (.ref b4), .val (.int (2 : Int32)), .val (.int (1 : Int32)), .val (.ref a_RULE_1016_0_12)] [])) _
    refine XS.iloadN X15.here hx rfl (hb hby d_prog_16_method_4_16) rfl ?_
    show Steps p.tables e below (T15.setTop (mkF m 17 #[.val (.ref x), .val (.ref b4), .val (.int (2 : Int32)), .val (.int (1 : Int32)), .val (.ref a_RULE_1016_0_12)] [(.int (1 : Int32))])) _
    refine XS.iloadN X15.here hx rfl (hb hby d_prog_16_method_4_17) rfl ?_
    show Steps p.tables e below (T15.setTop (mkF m 18 #[.val (.ref x), .val (.ref b4), .val (.int (2 : Int32)), .val (.int (1 : Int32)), .val (.ref a_RULE_1016_0_12)] [(.int (2 : Int32)), (.int (1 : Int32))])) _
    refine XS.icmpNo X15.here hx rfl (hb hby d_prog_16_method_4_18) rfl (by decide) ?_
    show Steps p.tables e below (T15.setTop (mkF m 21 #[.val (.ref x), .val (.ref b4), .val (.int (2 : Int32)), .val (.int (1 : Int32)), .val (.ref a_RULE_1016_0_12)] [])) _
    refine XS.aloadN X15.here hx rfl (hb hby d_prog_16_method_4_21) rfl rfl ?_
    show Steps p.tables e below (T15.setTop (mkF m 22 #[.val (.ref x), .val (.ref b4), .val (.int (2 : Int32)), .val (.int (1 : Int32)), .val (.ref a_RULE_1016_0_12)] [(.ref b4)])) _
    refine XS.iloadN X15.here hx rfl (hb hby d_prog_16_method_4_22) rfl ?_
    show Steps p.tables e below (T15.setTop (mkF m 23 #[.val (.ref x), .val (.ref b4), .val (.int (2 : Int32)), .val (.int (1 : Int32)), .val (.ref a_RULE_1016_0_12)] [(.int (1 : Int32)), (.ref b4)])) _
    refine X15.aaload hx (j := (1 : Int32)) (v := (.ref a_RULE_1014_8_0_114)) (by rw [Kq15]; exact Ar16.1) (State.isArrayOf_alike hZ1.alike Ar16.2.1) rfl Ar16.2.2 hin16 hat16 (g := (mkF m 23 #[.val (.ref x), .val (.ref b4), .val (.int (2 : Int32)), .val (.int (1 : Int32)), .val (.ref a_RULE_1016_0_12)] [(.int (1 : Int32)), (.ref b4)])) rfl rfl (hb hby d_prog_16_method_4_23) _ ?_
    show Steps p.tables e below (T15.setTop (mkF m 24 #[.val (.ref x), .val (.ref b4), .val (.int (2 : Int32)), .val (.int (1 : Int32)), .val (.ref a_RULE_1016_0_12)] [(.ref a_RULE_1014_8_0_114)])) _
    refine XS.astore X15.here hx rfl (hb hby d_prog_16_method_4_24) rfl rfl (l' := #[.val (.ref x), .val (.ref b4), .val (.int (2 : Int32)), .val (.int (1 : Int32)), .val (.ref a_RULE_1014_8_0_114)]) rfl ?_
    show Steps p.tables e below (T15.setTop (mkF m 26 #[.val (.ref x), .val (.ref b4), .val (.int (2 : Int32)), .val (.int (1 : Int32)), .val (.ref a_RULE_1014_8_0_114)] [])) _
    refine XS.aload X15.here hx rfl (hb hby d_prog_16_method_4_26) rfl rfl ?_
    show Steps p.tables e below (T15.setTop (mkF m 28 #[.val (.ref x), .val (.ref b4), .val (.int (2 : Int32)), .val (.int (1 : Int32)), .val (.ref a_RULE_1014_8_0_114)] [(.ref a_RULE_1014_8_0_114)])) _
    refine st17 _ ?_
    show Steps p.tables e below (T17.setTop (mkF m 31 #[.val (.ref x), .val (.ref b4), .val (.int (2 : Int32)), .val (.int (1 : Int32)), .val (.ref a_RULE_1014_8_0_114)] [(.ref a_RULE_1014_8_0_114_text)])) _
    refine XS.aloadN X17.here hx rfl (hb hby d_prog_16_method_4_31) rfl rfl ?_
    show Steps p.tables e below (T17.setTop (mkF m 32 #[.val (.ref x), .val (.ref b4), .val (.int (2 : Int32)), .val (.int (1 : Int32)), .val (.ref a_RULE_1014_8_0_114)] [(.ref x), (.ref a_RULE_1014_8_0_114_text)])) _
    refine st19.trans ?_
    show Steps p.tables e below (T19.setTop (mkF m 35 #[.val (.ref x), .val (.ref b4), .val (.int (2 : Int32)), .val (.int (1 : Int32)), .val (.ref a_RULE_1014_8_0_114)] [(.int (1 : Int32))])) _
    refine XS.ifNo X19.here hx rfl (hb hby d_prog_16_method_4_35) rfl (by decide) ?_
    show Steps p.tables e below (T19.setTop (mkF m 38 #[.val (.ref x), .val (.ref b4), .val (.int (2 : Int32)), .val (.int (1 : Int32)), .val (.ref a_RULE_1014_8_0_114)] [])) _
    refine XS.aload X19.here hx rfl (hb hby d_prog_16_method_4_38) rfl rfl ?_
    exact k_
  obtain ⟨fs, hr, hrun, hended, hRW⟩ := X19.leaveW hS1 (by rw [Kq19]; omega) (v := (some (.ref a_RULE_1014_8_0_114))) (fun h => by rw [Bd.returns] at h; cases h)
  refine ⟨_, _, S20 _ ((retOut X19 hx Bd.returns rfl (Or.inr (Or.inr (Or.inr (Or.inr ⟨rfl, rfl, rfl⟩)))) (hb hby d_prog_16_method_4_40) hr)), hrun, hended, _, _, rfl, ?_, hRW.1, hRW.2.1, hRW.2.2.1, hRW.2.2.2.mono (by decide) (by decide)⟩
  show Q_ofB Z x t kb vs a_RULE_1016_0_12 a_RULE_1014_8_0_114 a__VALUES a_RULE_1016_0_12_text a_RULE_1016_0_12_text_value a_RULE_1014_8_0_114_text a_RULE_1014_8_0_114_text_value k_a__VALUES k_a_RULE_1016_0_12_text_value k_a_RULE_1014_8_0_114_text_value cz h0 n0 _ T19.heap _
  rw [Kq19]
  exact ⟨rfl, N19, K3⟩
def Q_tos (Z : State) (a1 : Nat) (a2 : Nat) (h0 : Heap) (n0 : Nat) (v : Option Value) (h : Heap) (L : List Loc) : Prop := v = some (.ref a2) ∧ Fr n0 L ∧ h = h0
theorem ef_tos (m : MethodId) (a1 : Nat) (a2 : Nat) : entryFrame m #[(.ref a1)] 1 = (mkF m 0 #[.val (.ref a1)] []) := by first | (simp [entryFrame, mkF, argsToLocals, Value.category]; done) | rfl
set_option maxRecDepth 65536 in
set_option maxHeartbeats 40000000 in
theorem rm_tos (l : Launch) (Z : State) (a0 : Array Value) (hw : ∀ d ∈ tables_1, d.before a0 Z = true) (ws : List Jvm.Cond) (a1 : Nat) (a2 : Nat) (h0 : Heap) (n0 : Nat) (Z0 : n0 ≤ h0.size) (O0 : Old Z n0 h0) (F1 : Fld Z h0 a1 "com/example/kwhconv/kwhconv/PressureRule" "text" "Ljava/lang/String;" (.ref a2)) :
    MetFree l (⟨"com/example/kwhconv/kwhconv/PressureRule", "toString", "()Ljava/lang/String;"⟩ : MethodName) (head1 (Jvm.Cond.code (⟨"com/example/kwhconv/kwhconv/PressureRule", "toString", "()Ljava/lang/String;"⟩ : MethodName) prog_16_method_13_code 1 (some (.object "java/lang/String")) :: ws) ({ frames := 0, cells := 0, slots := 0, locals := 0 } : Room)) (fun a_ U_ => a_ = #[(.ref a1)] ∧ Z.Warmed39 U_.vm ∧ U_.heap = h0) (fun _ _ _ _ _ => True) (fun _ U_ o_ U'_ => ∃ v_ L_, o_ = .returned v_ ∧ Q_tos Z a1 a2 h0 n0 v_ U'_.heap L_ ∧ FrameEnd U_ o_ U'_ L_ ({ frames := 0, cells := 0, slots := 0, locals := 0 } : Room).cells ({ frames := 0, cells := 0, slots := 0, locals := 0 } : Room).slots) := by
  refine MetFree.of_bodySF (plainFor_of_name pn0) hisR ?_
  intro p e s m args below meth c s₁ Bd hml0 hP hK
  obtain ⟨rfl, hZ, hh⟩ := hP
  have hx := Bd.exec
  have hby := Bd.bytes
  have hml : c.maxLocals = 1 := hml0
  have hown : s.vm.findClass "com/example/kwhconv/kwhconv/PressureRule" = some m.cls := findClass_of_methodNamed Bd.named
  have hnm := (name_of_methodNamed Bd.named Bd.method).1
  have X0 : Stand p l e ({ frames := 0, cells := 0, slots := 0, locals := 0 } : Room) s m #[(.ref a1)] below meth c s₁ [] 0 0 := Stand.of_body Bd
  have e0 : s₁.heap = h0 := by rw [← hh, Bd.state]; rfl
  have N0 := Fr.nil n0
  have oz : Z.heap.size = n0 := O0.1
  have S0 : ∀ t_, Steps p.tables e below (s₁.setTop (mkF m 0 #[.val (.ref a1)] [])) t_ → Steps p.tables e below (s₁.setTop (entryFrame m #[(.ref a1)] 1)) t_ := fun t_ k_ => castTop (ef_tos m a1 a2) k_
  have lt_a1 : (a1 : Nat) < (h0.size : Nat) := F1.lt
  obtain ⟨T1, X1, e1, st1⟩ := getF X0 hx hZ hown (host := "") (Or.inl (tw60 hw)) Via.refl e0 F1 (g := (mkF m 1 #[.val (.ref a1)] [(.ref a1)])) rfl rfl (hb hby d_prog_16_method_13_1)
  have S2 : ∀ t_, Steps p.tables e below (T1.setTop (mkF m 4 #[.val (.ref a1)] [(.ref a2)])) t_ → Steps p.tables e below (s₁.setTop (entryFrame m #[(.ref a1)] 1)) t_ := by
    intro t_ k_
    refine S0 t_ ?_
    show Steps p.tables e below (s₁.setTop (mkF m 0 #[.val (.ref a1)] [])) _
    refine XS.aloadN X0.here hx rfl (hb hby d_prog_16_method_13_0) rfl rfl ?_
    show Steps p.tables e below (s₁.setTop (mkF m 1 #[.val (.ref a1)] [(.ref a1)])) _
    refine st1 _ ?_
    exact k_
  obtain ⟨fs, hr, hrun, hended, hW, hsame⟩ := X1.leave (v := (some (.ref a2))) (fun h => by rw [Bd.returns] at h; cases h)
  refine ⟨_, _, S2 _ ((retOut X1 hx Bd.returns rfl (Or.inr (Or.inr (Or.inr (Or.inr ⟨rfl, rfl, rfl⟩)))) (hb hby d_prog_16_method_13_4) hr)), hrun, hended, _, _, rfl, ?_, ⟨_, rfl⟩, hW, hsame.mono (by decide) (by decide)⟩
  show Q_tos Z a1 a2 h0 n0 _ T1.heap _
  rw [e1]
  exact ⟨rfl, N0, rfl⟩
def Q_law (Z : State) (p1 : Int32) (cz : Int32) (a_RULE_1016_0_12 : Nat) (a_RULE_1014_8_0_114 : Nat) (a__VALUES : Nat) (a_RULE_1016_0_12_text : Nat) (a_RULE_1016_0_12_text_value : Nat) (a_RULE_1014_8_0_114_text : Nat) (a_RULE_1014_8_0_114_text_value : Nat) (k_a__VALUES : ClassId) (k_a_RULE_1016_0_12_text_value : ClassId) (k_a_RULE_1014_8_0_114_text_value : ClassId) (h0 : Heap) (n0 : Nat) (v : Option Value) (h : Heap) (L : List Loc) : Prop := v = some (.int (1 : Int32)) ∧ Fr n0 L
theorem ef_law (m : MethodId) (p1 : Int32) (cz : Int32) (a_RULE_1016_0_12 : Nat) (a_RULE_1014_8_0_114 : Nat) (a__VALUES : Nat) (a_RULE_1016_0_12_text : Nat) (a_RULE_1016_0_12_text_value : Nat) (a_RULE_1014_8_0_114_text : Nat) (a_RULE_1014_8_0_114_text_value : Nat) (k_a__VALUES : ClassId) (k_a_RULE_1016_0_12_text_value : ClassId) (k_a_RULE_1014_8_0_114_text_value : ClassId) : entryFrame m #[(.int p1)] maxLocals = (mkF m 0 #[.val (.int p1), .unset, .unset, .unset, .unset, .unset, .unset] []) := by first | (simp [entryFrame, mkF, argsToLocals, Value.category, maxLocals]; done) | rfl
set_option maxRecDepth 65536 in
set_option maxHeartbeats 40000000 in
theorem rm_law (l : Launch) (Z : State) (a0 : Array Value) (hw : ∀ d ∈ tables_1, d.before a0 Z = true) (ws : List Jvm.Cond) (p1 : Int32) (cz : Int32) (a_RULE_1016_0_12 : Nat) (a_RULE_1014_8_0_114 : Nat) (a__VALUES : Nat) (a_RULE_1016_0_12_text : Nat) (a_RULE_1016_0_12_text_value : Nat) (a_RULE_1014_8_0_114_text : Nat) (a_RULE_1014_8_0_114_text_value : Nat) (k_a__VALUES : ClassId) (k_a_RULE_1016_0_12_text_value : ClassId) (k_a_RULE_1014_8_0_114_text_value : ClassId) (h0 : Heap) (n0 : Nat) (Z0 : n0 ≤ h0.size) (O0 : Old Z n0 h0) (Scz : Sta Z Z.heap "java/lang/String" "COMPACT_STRINGS" "Z" (.int cz)) (hcz : ¬ cz = (0 : Int32)) (S_RULE_1016_0_12 : Sta Z Z.heap "com/example/kwhconv/kwhconv/PressureRule" "RULE_1016_0_12" "Lcom/example/kwhconv/kwhconv/PressureRule;" (.ref a_RULE_1016_0_12)) (E_a_RULE_1016_0_12 : Exa Z Z.heap a_RULE_1016_0_12 "com/example/kwhconv/kwhconv/PressureRule") (S_RULE_1014_8_0_114 : Sta Z Z.heap "com/example/kwhconv/kwhconv/PressureRule" "RULE_1014_8_0_114" "Lcom/example/kwhconv/kwhconv/PressureRule;" (.ref a_RULE_1014_8_0_114)) (E_a_RULE_1014_8_0_114 : Exa Z Z.heap a_RULE_1014_8_0_114 "com/example/kwhconv/kwhconv/PressureRule") (S__VALUES : Sta Z Z.heap "com/example/kwhconv/kwhconv/PressureRule" "$VALUES" "[Lcom/example/kwhconv/kwhconv/PressureRule;" (.ref a__VALUES)) (E_a__VALUES : Exa Z Z.heap a__VALUES "[Lcom/example/kwhconv/kwhconv/PressureRule;") (F_a_RULE_1016_0_12_text : Fld Z Z.heap a_RULE_1016_0_12 "com/example/kwhconv/kwhconv/PressureRule" "text" "Ljava/lang/String;" (.ref a_RULE_1016_0_12_text)) (E_a_RULE_1016_0_12_text : Exa Z Z.heap a_RULE_1016_0_12_text "java/lang/String") (F_a_RULE_1016_0_12_text_coder : Fld Z Z.heap a_RULE_1016_0_12_text "java/lang/String" "coder" "B" (.int (0 : Int32))) (F_a_RULE_1016_0_12_text_value : Fld Z Z.heap a_RULE_1016_0_12_text "java/lang/String" "value" "[B" (.ref a_RULE_1016_0_12_text_value)) (F_a_RULE_1016_0_12_ordinal : Fld Z Z.heap a_RULE_1016_0_12 "java/lang/Enum" "ordinal" "I" (.int (0 : Int32))) (F_a_RULE_1014_8_0_114_ordinal : Fld Z Z.heap a_RULE_1014_8_0_114 "java/lang/Enum" "ordinal" "I" (.int (1 : Int32))) (F_a_RULE_1014_8_0_114_text : Fld Z Z.heap a_RULE_1014_8_0_114 "com/example/kwhconv/kwhconv/PressureRule" "text" "Ljava/lang/String;" (.ref a_RULE_1014_8_0_114_text)) (E_a_RULE_1014_8_0_114_text : Exa Z Z.heap a_RULE_1014_8_0_114_text "java/lang/String") (F_a_RULE_1014_8_0_114_text_coder : Fld Z Z.heap a_RULE_1014_8_0_114_text "java/lang/String" "coder" "B" (.int (0 : Int32))) (F_a_RULE_1014_8_0_114_text_value : Fld Z Z.heap a_RULE_1014_8_0_114_text "java/lang/String" "value" "[B" (.ref a_RULE_1014_8_0_114_text_value)) (A_a__VALUES : Arv Z Z.heap a__VALUES k_a__VALUES (.object "com/example/kwhconv/kwhconv/PressureRule") (2 : Int32) [(.ref a_RULE_1016_0_12), (.ref a_RULE_1014_8_0_114)] .null) (A_a_RULE_1016_0_12_text_value : Arv Z Z.heap a_RULE_1016_0_12_text_value k_a_RULE_1016_0_12_text_value .byte (9 : Int32) [(.int (49 : Int32)), (.int (48 : Int32)), (.int (49 : Int32)), (.int (54 : Int32)), (.int (45 : Int32)), (.int (48 : Int32)), (.int (46 : Int32)), (.int (49 : Int32)), (.int (50 : Int32))] (.int (0 : Int32))) (A_a_RULE_1014_8_0_114_text_value : Arv Z Z.heap a_RULE_1014_8_0_114_text_value k_a_RULE_1014_8_0_114_text_value .byte (12 : Int32) [(.int (49 : Int32)), (.int (48 : Int32)), (.int (49 : Int32)), (.int (52 : Int32)), (.int (46 : Int32)), (.int (56 : Int32)), (.int (45 : Int32)), (.int (48 : Int32)), (.int (46 : Int32)), (.int (49 : Int32)), (.int (49 : Int32)), (.int (52 : Int32))] (.int (0 : Int32))) :
    MetFree l x (head1 (Jvm.Cond.code x code maxLocals ret :: ws) room_1) (fun a_ U_ => a_ = #[(.int p1)] ∧ Z.Warmed39 U_.vm ∧ U_.heap = h0) (fun _ _ _ _ _ => True) (fun _ U_ o_ U'_ => ∃ v_ L_, o_ = .returned v_ ∧ Q_law Z p1 cz a_RULE_1016_0_12 a_RULE_1014_8_0_114 a__VALUES a_RULE_1016_0_12_text a_RULE_1016_0_12_text_value a_RULE_1014_8_0_114_text a_RULE_1014_8_0_114_text_value k_a__VALUES k_a_RULE_1016_0_12_text_value k_a_RULE_1014_8_0_114_text_value h0 n0 v_ U'_.heap L_ ∧ ReturnedEndW U_ o_ U'_ L_ room_1.cells room_1.slots) := by
  refine MetFree.of_bodySF (plainFor_of_name pn2) hisR ?_
  intro p e s m args below meth c s₁ Bd hml0 hP hK
  obtain ⟨rfl, hZ, hh⟩ := hP
  have hx := Bd.exec
  have hby := Bd.bytes
  have hml : c.maxLocals = 7 := hml0
  have hown : s.vm.findClass "com/example/kwhconv/kwhconv/PressureRuleOfPinLaw" = some m.cls := findClass_of_methodNamed Bd.named
  have hnm := (name_of_methodNamed Bd.named Bd.method).1
  have X0 : Stand p l e room_1 (s.setVm s.vm) m #[(.int p1)] below meth c s₁ [] 0 0 := Stand.of_body Bd
  have e0 : s₁.heap = h0 := by rw [← hh, Bd.state]; rfl
  have N0 := Fr.nil n0
  have oz : Z.heap.size = n0 := O0.1
  have S0 : ∀ t_, Steps p.tables e below (s₁.setTop (mkF m 0 #[.val (.int p1), .unset, .unset, .unset, .unset, .unset, .unset] [])) t_ → Steps p.tables e below (s₁.setTop (entryFrame m #[(.int p1)] maxLocals)) t_ := fun t_ k_ => castTop (ef_law m p1 cz a_RULE_1016_0_12 a_RULE_1014_8_0_114 a__VALUES a_RULE_1016_0_12_text a_RULE_1016_0_12_text_value a_RULE_1014_8_0_114_text a_RULE_1014_8_0_114_text_value k_a__VALUES k_a_RULE_1016_0_12_text_value k_a_RULE_1014_8_0_114_text_value) k_
  have hS0 : s.Since s.vm 0 := (State.WarmedH.refl s).since 0
  have hZ0 : Z.Warmed39 (s.setVm s.vm).vm := hZ
  have hown0 : (s.setVm s.vm).vm.findClass "com/example/kwhconv/kwhconv/PressureRuleOfPinLaw" = some m.cls := hown
  have hk0 : 0 ≤ h0.size := Nat.zero_le _
  have hsh : s.heap = h0 := hh
  have lt_a_RULE_1016_0_12 : (a_RULE_1016_0_12 : Nat) < (Z.heap.size : Nat) := E_a_RULE_1016_0_12.lt
  have lt_a_RULE_1014_8_0_114 : (a_RULE_1014_8_0_114 : Nat) < (Z.heap.size : Nat) := E_a_RULE_1014_8_0_114.lt
  have lt_a__VALUES : (a__VALUES : Nat) < (Z.heap.size : Nat) := E_a__VALUES.lt
  have lt_a_RULE_1016_0_12_text : (a_RULE_1016_0_12_text : Nat) < (Z.heap.size : Nat) := E_a_RULE_1016_0_12_text.lt
  have lt_a_RULE_1014_8_0_114_text : (a_RULE_1014_8_0_114_text : Nat) < (Z.heap.size : Nat) := E_a_RULE_1014_8_0_114_text.lt
  have lt_a_RULE_1016_0_12_text_value : (a_RULE_1016_0_12_text_value : Nat) < (Z.heap.size : Nat) := A_a_RULE_1016_0_12_text_value.lt
  have lt_a_RULE_1014_8_0_114_text_value : (a_RULE_1014_8_0_114_text_value : Nat) < (Z.heap.size : Nat) := A_a_RULE_1014_8_0_114_text_value.lt
  have S1 : ∀ t_, Steps p.tables e below (s₁.setTop (mkF m 3 #[.val (.int p1), .unset, .unset, .unset, .unset, .unset, .unset] [(.int (p1 &&& (1 : Int32)))])) t_ → Steps p.tables e below (s₁.setTop (entryFrame m #[(.int p1)] maxLocals)) t_ := by
    intro t_ k_
    refine S0 t_ ?_
    show Steps p.tables e below (s₁.setTop (mkF m 0 #[.val (.int p1), .unset, .unset, .unset, .unset, .unset, .unset] [])) _
    refine XS.iloadN X0.here hx rfl (hb hby at_0) rfl ?_
    show Steps p.tables e below (s₁.setTop (mkF m 1 #[.val (.int p1), .unset, .unset, .unset, .unset, .unset, .unset] [(.int p1)])) _
    refine XT.iconstV X0.here hx rfl (1 : Int32) (hb hby at_1) (by decide) ?_
    show Steps p.tables e below (s₁.setTop (mkF m 2 #[.val (.int p1), .unset, .unset, .unset, .unset, .unset, .unset] [(.int (1 : Int32)), (.int p1)])) _
    refine own_op_iand X0.here hx rfl (hb hby at_2) rfl (z := (p1 &&& (1 : Int32))) rfl ?_
    exact k_
  by_cases c2 : (p1 &&& (1 : Int32)) = (0 : Int32)
  · -- (p1 &&& (1 : Int32)) = (0 : Int32)
    obtain ⟨T3, X3, e3, st3⟩ := getS2 X0 hx hZ0 hown0 (host := "") (Or.inl (tw0 hw)) Via.refl e0 (S_RULE_1016_0_12.ext O0.2) (g := (mkF m 22 #[.val (.int p1), .val (.int (0 : Int32)), .unset, .unset, .unset, .unset, .unset] [])) rfl (hb hby at_22)
    obtain ⟨T4, X4, e4, st4⟩ := getS2 X3 hx hZ0 hown0 (host := "") (Or.inl (tw3 hw)) Via.refl e3 (S_RULE_1014_8_0_114.ext O0.2) (g := (mkF m 36 #[.val (.int p1), .val (.int (0 : Int32)), .val (.ref a_RULE_1016_0_12), .unset, .unset, .unset, .unset] [])) rfl (hb hby at_36)
    obtain ⟨T5, h5, X5, e5, E5, A5, D5, -, st5⟩ := newO X4 hx hZ0 hown0 (tw5 hw) (tw6 hw) (tw7 hw) e4 (g := (mkF m 124 #[.val (.int p1), .val (.int (0 : Int32)), .val (.ref a_RULE_1016_0_12), .val (.ref a_RULE_1014_8_0_114), .unset, .unset, .unset] [])) rfl (hb hby at_124) (by decide) (by decide)
    obtain ⟨b5, g5⟩ : ∃ z, z = h0.size := ⟨_, rfl⟩
    rw [← g5] at A5 D5 st5
    have lb5 : (b5 : Nat) < (h5.size : Nat) := A5.lt
    have z5 := E5.1
    have O5 := O0.ext E5
    have f6 : Fld Z h5 b5 "java/lang/String" "coder" "B" (.int (0 : Int32)) := D5 (Or.inr (tw32 hw)) (ty := .byte) (by decide)
    have f7 : Fld Z h5 b5 "java/lang/String" "value" "[B" .null := D5 (Or.inr (tw34 hw)) (ty := (.array .byte)) (by decide)
    obtain ⟨T8, h8, k8, X8, e8, E8, A8, st8⟩ := newP X5 hx hZ0 (aty := .char) (tw8 hw) e5 (g := (mkF m 130 #[.val (.int p1), .val (.int (0 : Int32)), .val (.ref a_RULE_1016_0_12), .val (.ref a_RULE_1014_8_0_114), .unset, .unset, .unset] [(.int (9 : Int32)), (.ref b5), (.ref b5)])) rfl (hb hby at_130) rfl (by decide) (cap := 9) (by decide) (by decide) (by decide) (by decide)
    obtain ⟨b8, g8⟩ : ∃ z, z = h5.size := ⟨_, rfl⟩
    rw [← g8] at A8 st8
    have lb8 : (b8 : Nat) < (h8.size : Nat) := A8.lt
    have v8 : Arv Z h8 b8 k8 .char (9 : Int32) [(.int (0 : Int32)), (.int (0 : Int32)), (.int (0 : Int32)), (.int (0 : Int32)), (.int (0 : Int32)), (.int (0 : Int32)), (.int (0 : Int32)), (.int (0 : Int32)), (.int (0 : Int32))] (.int (0 : Int32)) := (Arv.new A8 (by decide)).pad (pad_rep [] (.int (0 : Int32)) 9)
    have z8 := E8.1
    have O8 := O5.ext E8
    obtain ⟨cl9, Ar9, q9, Sz9, Nn9, H9, G9⟩ := id v8
    have hin9 : ¬ ((0 : Int32) < 0 ∨ cl9.slots.size ≤ ((0 : Int32)).toNatClampNeg) := inb_of Sz9 ⟨by decide, by decide⟩
    obtain ⟨T10, h10, X10, e10, W10, st10⟩ := stC X8 hx hZ0 e8 Ar9 (j := (0 : Int32)) hin9 (g := (mkF m 136 #[.val (.int p1), .val (.int (0 : Int32)), .val (.ref a_RULE_1016_0_12), .val (.ref a_RULE_1014_8_0_114), .unset, .unset, .unset] [(.int (49 : Int32)), (.int (0 : Int32)), (.ref b8), (.ref b8), (.ref b5), (.ref b5)])) rfl rfl (hb hby at_136)
    have W10 : Wr h8 h10 b8 ((0 : Int32)).toNatClampNeg (.int (49 : Int32)) := W10
    have z10 := W10.size
    have N10 := Fr.snoc X10 N0 (by omega)
    have O10 := O8.wr W10 (by omega)
    have v10 : Arv Z h10 b8 k8 .char (9 : Int32) [(.int (49 : Int32)), (.int (0 : Int32)), (.int (0 : Int32)), (.int (0 : Int32)), (.int (0 : Int32)), (.int (0 : Int32)), (.int (0 : Int32)), (.int (0 : Int32)), (.int (0 : Int32))] (.int (0 : Int32)) := Arv.set Ar9 q9 Sz9 Nn9 H9 G9 rfl W10 0 rfl (Nat.le_of_ble_eq_true rfl)
    obtain ⟨cl11, Ar11, q11, Sz11, Nn11, H11, G11⟩ := id v10
    have hin11 : ¬ ((1 : Int32) < 0 ∨ cl11.slots.size ≤ ((1 : Int32)).toNatClampNeg) := inb_of Sz11 ⟨by decide, by decide⟩
    obtain ⟨T12, h12, X12, e12, W12, st12⟩ := stC X10 hx hZ0 e10 Ar11 (j := (1 : Int32)) hin11 (g := (mkF m 141 #[.val (.int p1), .val (.int (0 : Int32)), .val (.ref a_RULE_1016_0_12), .val (.ref a_RULE_1014_8_0_114), .unset, .unset, .unset] [(.int (48 : Int32)), (.int (1 : Int32)), (.ref b8), (.ref b8), (.ref b5), (.ref b5)])) rfl rfl (hb hby at_141)
    have W12 : Wr h10 h12 b8 ((1 : Int32)).toNatClampNeg (.int (48 : Int32)) := W12
    have z12 := W12.size
    have N12 := Fr.snoc X12 N10 (by omega)
    have O12 := O10.wr W12 (by omega)
    have v12 : Arv Z h12 b8 k8 .char (9 : Int32) [(.int (49 : Int32)), (.int (48 : Int32)), (.int (0 : Int32)), (.int (0 : Int32)), (.int (0 : Int32)), (.int (0 : Int32)), (.int (0 : Int32)), (.int (0 : Int32)), (.int (0 : Int32))] (.int (0 : Int32)) := Arv.set Ar11 q11 Sz11 Nn11 H11 G11 rfl W12 1 rfl (Nat.le_of_ble_eq_true rfl)
    obtain ⟨cl13, Ar13, q13, Sz13, Nn13, H13, G13⟩ := id v12
    have hin13 : ¬ ((2 : Int32) < 0 ∨ cl13.slots.size ≤ ((2 : Int32)).toNatClampNeg) := inb_of Sz13 ⟨by decide, by decide⟩
    obtain ⟨T14, h14, X14, e14, W14, st14⟩ := stC X12 hx hZ0 e12 Ar13 (j := (2 : Int32)) hin13 (g := (mkF m 146 #[.val (.int p1), .val (.int (0 : Int32)), .val (.ref a_RULE_1016_0_12), .val (.ref a_RULE_1014_8_0_114), .unset, .unset, .unset] [(.int (49 : Int32)), (.int (2 : Int32)), (.ref b8), (.ref b8), (.ref b5), (.ref b5)])) rfl rfl (hb hby at_146)
    have W14 : Wr h12 h14 b8 ((2 : Int32)).toNatClampNeg (.int (49 : Int32)) := W14
    have z14 := W14.size
    have N14 := Fr.snoc X14 N12 (by omega)
    have O14 := O12.wr W14 (by omega)
    have v14 : Arv Z h14 b8 k8 .char (9 : Int32) [(.int (49 : Int32)), (.int (48 : Int32)), (.int (49 : Int32)), (.int (0 : Int32)), (.int (0 : Int32)), (.int (0 : Int32)), (.int (0 : Int32)), (.int (0 : Int32)), (.int (0 : Int32))] (.int (0 : Int32)) := Arv.set Ar13 q13 Sz13 Nn13 H13 G13 rfl W14 2 rfl (Nat.le_of_ble_eq_true rfl)
    obtain ⟨cl15, Ar15, q15, Sz15, Nn15, H15, G15⟩ := id v14
    have hin15 : ¬ ((3 : Int32) < 0 ∨ cl15.slots.size ≤ ((3 : Int32)).toNatClampNeg) := inb_of Sz15 ⟨by decide, by decide⟩
    obtain ⟨T16, h16, X16, e16, W16, st16⟩ := stC X14 hx hZ0 e14 Ar15 (j := (3 : Int32)) hin15 (g := (mkF m 151 #[.val (.int p1), .val (.int (0 : Int32)), .val (.ref a_RULE_1016_0_12), .val (.ref a_RULE_1014_8_0_114), .unset, .unset, .unset] [(.int (54 : Int32)), (.int (3 : Int32)), (.ref b8), (.ref b8), (.ref b5), (.ref b5)])) rfl rfl (hb hby at_151)
    have W16 : Wr h14 h16 b8 ((3 : Int32)).toNatClampNeg (.int (54 : Int32)) := W16
    have z16 := W16.size
    have N16 := Fr.snoc X16 N14 (by omega)
    have O16 := O14.wr W16 (by omega)
    have v16 : Arv Z h16 b8 k8 .char (9 : Int32) [(.int (49 : Int32)), (.int (48 : Int32)), (.int (49 : Int32)), (.int (54 : Int32)), (.int (0 : Int32)), (.int (0 : Int32)), (.int (0 : Int32)), (.int (0 : Int32)), (.int (0 : Int32))] (.int (0 : Int32)) := Arv.set Ar15 q15 Sz15 Nn15 H15 G15 rfl W16 3 rfl (Nat.le_of_ble_eq_true rfl)
    obtain ⟨cl17, Ar17, q17, Sz17, Nn17, H17, G17⟩ := id v16
    have hin17 : ¬ ((4 : Int32) < 0 ∨ cl17.slots.size ≤ ((4 : Int32)).toNatClampNeg) := inb_of Sz17 ⟨by decide, by decide⟩
    obtain ⟨T18, h18, X18, e18, W18, st18⟩ := stC X16 hx hZ0 e16 Ar17 (j := (4 : Int32)) hin17 (g := (mkF m 156 #[.val (.int p1), .val (.int (0 : Int32)), .val (.ref a_RULE_1016_0_12), .val (.ref a_RULE_1014_8_0_114), .unset, .unset, .unset] [(.int (45 : Int32)), (.int (4 : Int32)), (.ref b8), (.ref b8), (.ref b5), (.ref b5)])) rfl rfl (hb hby at_156)
    have W18 : Wr h16 h18 b8 ((4 : Int32)).toNatClampNeg (.int (45 : Int32)) := W18
    have z18 := W18.size
    have N18 := Fr.snoc X18 N16 (by omega)
    have O18 := O16.wr W18 (by omega)
    have v18 : Arv Z h18 b8 k8 .char (9 : Int32) [(.int (49 : Int32)), (.int (48 : Int32)), (.int (49 : Int32)), (.int (54 : Int32)), (.int (45 : Int32)), (.int (0 : Int32)), (.int (0 : Int32)), (.int (0 : Int32)), (.int (0 : Int32))] (.int (0 : Int32)) := Arv.set Ar17 q17 Sz17 Nn17 H17 G17 rfl W18 4 rfl (Nat.le_of_ble_eq_true rfl)
    obtain ⟨cl19, Ar19, q19, Sz19, Nn19, H19, G19⟩ := id v18
    have hin19 : ¬ ((5 : Int32) < 0 ∨ cl19.slots.size ≤ ((5 : Int32)).toNatClampNeg) := inb_of Sz19 ⟨by decide, by decide⟩
    obtain ⟨T20, h20, X20, e20, W20, st20⟩ := stC X18 hx hZ0 e18 Ar19 (j := (5 : Int32)) hin19 (g := (mkF m 161 #[.val (.int p1), .val (.int (0 : Int32)), .val (.ref a_RULE_1016_0_12), .val (.ref a_RULE_1014_8_0_114), .unset, .unset, .unset] [(.int (48 : Int32)), (.int (5 : Int32)), (.ref b8), (.ref b8), (.ref b5), (.ref b5)])) rfl rfl (hb hby at_161)
    have W20 : Wr h18 h20 b8 ((5 : Int32)).toNatClampNeg (.int (48 : Int32)) := W20
    have z20 := W20.size
    have N20 := Fr.snoc X20 N18 (by omega)
    have O20 := O18.wr W20 (by omega)
    have v20 : Arv Z h20 b8 k8 .char (9 : Int32) [(.int (49 : Int32)), (.int (48 : Int32)), (.int (49 : Int32)), (.int (54 : Int32)), (.int (45 : Int32)), (.int (48 : Int32)), (.int (0 : Int32)), (.int (0 : Int32)), (.int (0 : Int32))] (.int (0 : Int32)) := Arv.set Ar19 q19 Sz19 Nn19 H19 G19 rfl W20 5 rfl (Nat.le_of_ble_eq_true rfl)
    obtain ⟨cl21, Ar21, q21, Sz21, Nn21, H21, G21⟩ := id v20
    have hin21 : ¬ ((6 : Int32) < 0 ∨ cl21.slots.size ≤ ((6 : Int32)).toNatClampNeg) := inb_of Sz21 ⟨by decide, by decide⟩
    obtain ⟨T22, h22, X22, e22, W22, st22⟩ := stC X20 hx hZ0 e20 Ar21 (j := (6 : Int32)) hin21 (g := (mkF m 167 #[.val (.int p1), .val (.int (0 : Int32)), .val (.ref a_RULE_1016_0_12), .val (.ref a_RULE_1014_8_0_114), .unset, .unset, .unset] [(.int (46 : Int32)), (.int (6 : Int32)), (.ref b8), (.ref b8), (.ref b5), (.ref b5)])) rfl rfl (hb hby at_167)
    have W22 : Wr h20 h22 b8 ((6 : Int32)).toNatClampNeg (.int (46 : Int32)) := W22
    have z22 := W22.size
    have N22 := Fr.snoc X22 N20 (by omega)
    have O22 := O20.wr W22 (by omega)
    have v22 : Arv Z h22 b8 k8 .char (9 : Int32) [(.int (49 : Int32)), (.int (48 : Int32)), (.int (49 : Int32)), (.int (54 : Int32)), (.int (45 : Int32)), (.int (48 : Int32)), (.int (46 : Int32)), (.int (0 : Int32)), (.int (0 : Int32))] (.int (0 : Int32)) := Arv.set Ar21 q21 Sz21 Nn21 H21 G21 rfl W22 6 rfl (Nat.le_of_ble_eq_true rfl)
    obtain ⟨cl23, Ar23, q23, Sz23, Nn23, H23, G23⟩ := id v22
    have hin23 : ¬ ((7 : Int32) < 0 ∨ cl23.slots.size ≤ ((7 : Int32)).toNatClampNeg) := inb_of Sz23 ⟨by decide, by decide⟩
    obtain ⟨T24, h24, X24, e24, W24, st24⟩ := stC X22 hx hZ0 e22 Ar23 (j := (7 : Int32)) hin23 (g := (mkF m 173 #[.val (.int p1), .val (.int (0 : Int32)), .val (.ref a_RULE_1016_0_12), .val (.ref a_RULE_1014_8_0_114), .unset, .unset, .unset] [(.int (49 : Int32)), (.int (7 : Int32)), (.ref b8), (.ref b8), (.ref b5), (.ref b5)])) rfl rfl (hb hby at_173)
    have W24 : Wr h22 h24 b8 ((7 : Int32)).toNatClampNeg (.int (49 : Int32)) := W24
    have z24 := W24.size
    have N24 := Fr.snoc X24 N22 (by omega)
    have O24 := O22.wr W24 (by omega)
    have v24 : Arv Z h24 b8 k8 .char (9 : Int32) [(.int (49 : Int32)), (.int (48 : Int32)), (.int (49 : Int32)), (.int (54 : Int32)), (.int (45 : Int32)), (.int (48 : Int32)), (.int (46 : Int32)), (.int (49 : Int32)), (.int (0 : Int32))] (.int (0 : Int32)) := Arv.set Ar23 q23 Sz23 Nn23 H23 G23 rfl W24 7 rfl (Nat.le_of_ble_eq_true rfl)
    obtain ⟨cl25, Ar25, q25, Sz25, Nn25, H25, G25⟩ := id v24
    have hin25 : ¬ ((8 : Int32) < 0 ∨ cl25.slots.size ≤ ((8 : Int32)).toNatClampNeg) := inb_of Sz25 ⟨by decide, by decide⟩
    obtain ⟨T26, h26, X26, e26, W26, st26⟩ := stC X24 hx hZ0 e24 Ar25 (j := (8 : Int32)) hin25 (g := (mkF m 179 #[.val (.int p1), .val (.int (0 : Int32)), .val (.ref a_RULE_1016_0_12), .val (.ref a_RULE_1014_8_0_114), .unset, .unset, .unset] [(.int (50 : Int32)), (.int (8 : Int32)), (.ref b8), (.ref b8), (.ref b5), (.ref b5)])) rfl rfl (hb hby at_179)
    have W26 : Wr h24 h26 b8 ((8 : Int32)).toNatClampNeg (.int (50 : Int32)) := W26
    have z26 := W26.size
    have N26 := Fr.snoc X26 N24 (by omega)
    have O26 := O24.wr W26 (by omega)
    have v26 : Arv Z h26 b8 k8 .char (9 : Int32) [(.int (49 : Int32)), (.int (48 : Int32)), (.int (49 : Int32)), (.int (54 : Int32)), (.int (45 : Int32)), (.int (48 : Int32)), (.int (46 : Int32)), (.int (49 : Int32)), (.int (50 : Int32))] (.int (0 : Int32)) := Arv.set Ar25 q25 Sz25 Nn25 H25 G25 rfl W26 8 rfl (Nat.le_of_ble_eq_true rfl)
    have hp27 : ∀ c ∈ ([(49 : Int32), (48 : Int32), (49 : Int32), (54 : Int32), (45 : Int32), (48 : Int32), (46 : Int32), (49 : Int32), (50 : Int32)] : List Int32), ¬ c < 0 ∧ ¬ (255 : Int32) < c := by
      intro c hc
      simp only [List.mem_cons, List.not_mem_nil, or_false] at hc
      rcases hc with rfl | rfl | rfl | rfl | rfl | rfl | rfl | rfl | rfl
      · decide
      · decide
      · decide
      · decide
      · decide
      · decide
      · decide
      · decide
      · decide
    have f28 := ((((((((((A5.ext E8).wr W10).wr W12).wr W14).wr W16).wr W18).wr W20).wr W22).wr W24).wr W26)
    have f29 := ((((((((((f7.ext E8).other W10 (Or.inl (by omega : (b5 : Nat) ≠ (b8 : Nat)))).other W12 (Or.inl (by omega : (b5 : Nat) ≠ (b8 : Nat)))).other W14 (Or.inl (by omega : (b5 : Nat) ≠ (b8 : Nat)))).other W16 (Or.inl (by omega : (b5 : Nat) ≠ (b8 : Nat)))).other W18 (Or.inl (by omega : (b5 : Nat) ≠ (b8 : Nat)))).other W20 (Or.inl (by omega : (b5 : Nat) ≠ (b8 : Nat)))).other W22 (Or.inl (by omega : (b5 : Nat) ≠ (b8 : Nat)))).other W24 (Or.inl (by omega : (b5 : Nat) ≠ (b8 : Nat)))).other W26 (Or.inl (by omega : (b5 : Nat) ≠ (b8 : Nat))))
    have f30 := ((((((((((f6.ext E8).other W10 (Or.inl (by omega : (b5 : Nat) ≠ (b8 : Nat)))).other W12 (Or.inl (by omega : (b5 : Nat) ≠ (b8 : Nat)))).other W14 (Or.inl (by omega : (b5 : Nat) ≠ (b8 : Nat)))).other W16 (Or.inl (by omega : (b5 : Nat) ≠ (b8 : Nat)))).other W18 (Or.inl (by omega : (b5 : Nat) ≠ (b8 : Nat)))).other W20 (Or.inl (by omega : (b5 : Nat) ≠ (b8 : Nat)))).other W22 (Or.inl (by omega : (b5 : Nat) ≠ (b8 : Nat)))).other W24 (Or.inl (by omega : (b5 : Nat) ≠ (b8 : Nat)))).other W26 (Or.inl (by omega : (b5 : Nat) ≠ (b8 : Nat))))
    obtain ⟨_, _, ⟨T31, L31, k31, n31⟩, -, X31, ⟨Lc31, hQ31, l31, y31, z31⟩, st31⟩ := X26.specialBack hx (y := (⟨"java/lang/String", "<init>", "([C)V"⟩ : MethodName)) rfl hown0 (mvT hZ0 (tw9 hw)) (mvT hZ0 (tw10 hw)) (mvT hZ0 (tw11 hw)) (by decide) (StrChars.Road.backV (W := 1) hZ0 (own_hws hw) (kI := 4) (tw6 hw) (cs := ([(49 : Int32), (48 : Int32), (49 : Int32), (54 : Int32), (45 : Int32), (48 : Int32), (46 : Int32), (49 : Int32), (50 : Int32)] : List Int32)) (bs := ([(49 : Int32), (48 : Int32), (49 : Int32), (54 : Int32), (45 : Int32), (48 : Int32), (46 : Int32), (49 : Int32), (50 : Int32)] : List Int32).map (fun c => c.toInt8.toInt32)) (n := 9) (n0 := n0) (x := b5) (by omega) (by omega) f28 f29 f30 v26 (Scz.ext O26.2) hcz rfl rfl (by decide) (by decide) hp27 rfl (by decide) (by decide)) (g := (mkF m 180 #[.val (.int p1), .val (.int (0 : Int32)), .val (.ref a_RULE_1016_0_12), .val (.ref a_RULE_1014_8_0_114), .unset, .unset, .unset] [(.ref b8), (.ref b5), (.ref b5)])) rfl (by rw [hml]; rfl) (Steps.refl _) (a := b5) (argsL := [(.ref b8)]) (rest := [(.ref b5)]) (lenOf pd3 rfl) rfl (by show 2 * 0 + _ ≤ _; exact Nat.le_of_eq rfl) (hb hby at_180) (fun _ _ => ⟨rfl, e26, (by decide : 2 + 1 ≤ _), (by decide : 13 + 9 ≤ _)⟩)
    dsimp only [Pt.U, Pt.locs, Pt.cells, Pt.slots] at X31 l31 y31 z31 st31 hQ31
    subst l31 y31 z31
    obtain ⟨rfl, N31q, Kq31, Ea31, Ec31, t31, kb31, ga31, gb31, gc31, Ev31, Et31⟩ := hQ31
    have N31 := Fr.app N26 N31q
    have z31 := Kq31.1
    have O31 := O26.keep Kq31 (allS (by omega) all0)
    have lq31 : (b5 : Nat) < (T31.heap.size : Nat) := Ea31.lt
    have lr31 : (t31 : Nat) < (T31.heap.size : Nat) := Et31.lt
    have gd31 : (h26.size : Nat) ≤ (t31 : Nat) := gb31
    have hcd32 : StrChars.Road.CodA ([(49 : Int32), (48 : Int32), (49 : Int32), (54 : Int32), (45 : Int32), (48 : Int32), (46 : Int32), (49 : Int32), (50 : Int32)] : List Int32) 0 (9 : Int32) ((([(49 : Int32), (48 : Int32), (49 : Int32), (54 : Int32), (45 : Int32), (48 : Int32), (46 : Int32), (49 : Int32), (50 : Int32)] : List Int32).map (fun c => c.toInt8.toInt32)).map Value.int) := StrChars.Road.codOf (n := 9) rfl (fun c hc => (hp27 c hc).2)
    have hbd32 : ∀ c ∈ ([(49 : Int32), (48 : Int32), (49 : Int32), (54 : Int32), (45 : Int32), (48 : Int32), (46 : Int32), (49 : Int32), (50 : Int32)] : List Int32), ¬ c < 0 ∧ ¬ (65535 : Int32) < c := own_up (cs := ([(49 : Int32), (48 : Int32), (49 : Int32), (54 : Int32), (45 : Int32), (48 : Int32), (46 : Int32), (49 : Int32), (50 : Int32)] : List Int32)) hp27
    obtain ⟨_, _, ⟨T33, L33, k33, n33⟩, -, Y33, hs33, hg33, ⟨Lc33, hQ33, l33, y33, z33⟩, st33⟩ := Jvm.RoadKit.callSS X31 hx (y := (⟨"com/example/kwhconv/kwhconv/PressureRule", "of", "(Ljava/lang/String;)Lcom/example/kwhconv/kwhconv/PressureRule;"⟩ : MethodName)) hown0 (mvT hZ0 (tw35 hw)) (mvT hZ0 (tw36 hw)) (mvT hZ0 (tw1 hw)) (mvT hZ0 (tw37 hw)) (by decide) (backOfS (W := 0) (rm_ofA l Z a0 hw [] b5 t31 kb31 ((([(49 : Int32), (48 : Int32), (49 : Int32), (54 : Int32), (45 : Int32), (48 : Int32), (46 : Int32), (49 : Int32), (50 : Int32)] : List Int32).map (fun c => c.toInt8.toInt32)).map Value.int) a_RULE_1016_0_12 a_RULE_1014_8_0_114 a__VALUES a_RULE_1016_0_12_text a_RULE_1016_0_12_text_value a_RULE_1014_8_0_114_text a_RULE_1014_8_0_114_text_value k_a__VALUES k_a_RULE_1016_0_12_text_value k_a_RULE_1014_8_0_114_text_value cz T31.heap n0 (by omega) O31 Ea31 Ev31 Ec31 Et31 hcd32 S_RULE_1016_0_12 E_a_RULE_1016_0_12 S_RULE_1014_8_0_114 E_a_RULE_1014_8_0_114 S__VALUES E_a__VALUES F_a_RULE_1016_0_12_text E_a_RULE_1016_0_12_text F_a_RULE_1016_0_12_text_coder F_a_RULE_1016_0_12_text_value F_a_RULE_1016_0_12_ordinal F_a_RULE_1014_8_0_114_ordinal F_a_RULE_1014_8_0_114_text E_a_RULE_1014_8_0_114_text F_a_RULE_1014_8_0_114_text_coder F_a_RULE_1014_8_0_114_text_value A_a__VALUES A_a_RULE_1016_0_12_text_value A_a_RULE_1014_8_0_114_text_value Scz hcz) hZ0 (tw37 hw) (tw1 hw) (by decide) (by decide)) (g := (mkF m 187 #[.val (.int p1), .val (.int (0 : Int32)), .val (.ref a_RULE_1016_0_12), .val (.ref a_RULE_1014_8_0_114), .val (.ref b5), .unset, .unset] [(.ref b5)])) rfl (by rw [hml]; rfl) (argsL := [(.ref b5)]) (rest := []) (lenOf pd4 rfl) rfl (by show 2 * 0 + _ ≤ _; exact Nat.le_of_eq rfl) (hb hby at_187) (fun _ _ => ⟨rfl, rfl, (by decide : 3 + 3 ≤ _), (by decide : 22 + 58 ≤ _)⟩)
    dsimp only [Pt.U, Pt.locs, Pt.cells, Pt.slots] at Y33 hs33 hg33 l33 y33 z33 st33 hQ33
    subst l33 y33 z33
    obtain ⟨X33, hS33, hZ33, hown33⟩ := rebS hS0 (n1 := T31.heap.size) (by omega) Y33 hs33 hg33 hZ0 hown0
    obtain ⟨rfl, N33q, Kq33⟩ := hQ33
    have N33 := Fr.app N31 N33q
    have z33 := Kq33.1
    have O33 := O31.keep Kq33 all0
    obtain ⟨cq34, kq34, q34a, q34b, q34c⟩ := isOf hZ33 rfl (E_a_RULE_1016_0_12.ext O33.2)
    obtain ⟨_, _, ⟨T34, L34, k34, n34⟩, -, X34, ⟨Lc34, hQ34, l34, y34, z34⟩, st34⟩ := X33.virtualBack hx (y := (⟨"com/example/kwhconv/kwhconv/PressureRule", "toString", "()Ljava/lang/String;"⟩ : MethodName)) (z := (⟨"com/example/kwhconv/kwhconv/PressureRule", "toString", "()Ljava/lang/String;"⟩ : MethodName)) hown33 (mvT hZ33 (tw72 hw)) (mvT hZ33 (tw73 hw)) (notFace_of_selects (args := #[]) (mvT hZ33 (tw75 hw))) (mvT hZ33 (tw75 hw)) (mvT hZ33 (tw74 hw)) (by decide) (backOf (W := 0) (rm_tos l Z a0 hw [] a_RULE_1016_0_12 a_RULE_1016_0_12_text T33.heap n0 (by omega) O33 (F_a_RULE_1016_0_12_text.ext O33.2)) hZ33 (tw76 hw) (tw1 hw) (by decide) (by decide)) q34a q34c (g := (mkF m 193 #[.val (.int p1), .val (.int (0 : Int32)), .val (.ref a_RULE_1016_0_12), .val (.ref a_RULE_1014_8_0_114), .val (.ref b5), .val (.ref a_RULE_1016_0_12), .unset] [(.ref a_RULE_1016_0_12)])) rfl (by rw [hml]; rfl) (Steps.refl _) (argsL := []) (rest := []) (lenOf pd5 rfl) rfl (by show 2 * 0 + _ ≤ _; exact Nat.le_of_eq rfl) (hb hby at_193) (fun _ _ => ⟨rfl, rfl, (by decide : 6 + 0 ≤ _), (by decide : 80 + 0 ≤ _)⟩)
    dsimp only [Pt.U, Pt.locs, Pt.cells, Pt.slots] at X34 l34 y34 z34 st34 hQ34
    subst l34 y34 z34
    obtain ⟨rfl, N34q, Kq34⟩ := hQ34
    have N34 := Fr.app N33 N34q
    have hp35 : ∀ c ∈ ([(49 : Int32), (48 : Int32), (49 : Int32), (54 : Int32), (45 : Int32), (48 : Int32), (46 : Int32), (49 : Int32), (50 : Int32)] : List Int32), ¬ c < 0 ∧ ¬ (255 : Int32) < c := (by decide)
    have hcd35 : StrChars.Road.CodA ([(49 : Int32), (48 : Int32), (49 : Int32), (54 : Int32), (45 : Int32), (48 : Int32), (46 : Int32), (49 : Int32), (50 : Int32)] : List Int32) 0 (9 : Int32) [(.int (49 : Int32)), (.int (48 : Int32)), (.int (49 : Int32)), (.int (54 : Int32)), (.int (45 : Int32)), (.int (48 : Int32)), (.int (46 : Int32)), (.int (49 : Int32)), (.int (50 : Int32))] := own_cod9
    have hbd35 : ∀ c ∈ ([(49 : Int32), (48 : Int32), (49 : Int32), (54 : Int32), (45 : Int32), (48 : Int32), (46 : Int32), (49 : Int32), (50 : Int32)] : List Int32), ¬ c < 0 ∧ ¬ (65535 : Int32) < c := own_up (cs := ([(49 : Int32), (48 : Int32), (49 : Int32), (54 : Int32), (45 : Int32), (48 : Int32), (46 : Int32), (49 : Int32), (50 : Int32)] : List Int32)) hp35
    obtain ⟨_, _, ⟨T36, L36, k36, n36⟩, -, Y36, hs36, hg36, ⟨Lc36, hQ36, l36, y36, z36⟩, st36⟩ := Jvm.RoadKit.callSS X34 hx (y := (⟨"com/example/kwhconv/kwhconv/PressureRule", "of", "(Ljava/lang/String;)Lcom/example/kwhconv/kwhconv/PressureRule;"⟩ : MethodName)) hown33 (mvT hZ33 (tw35 hw)) (mvT hZ33 (tw36 hw)) (mvT hZ33 (tw1 hw)) (mvT hZ33 (tw37 hw)) (by decide) (backOfS (W := 0) (rm_ofA l Z a0 hw [] a_RULE_1016_0_12_text a_RULE_1016_0_12_text_value k_a_RULE_1016_0_12_text_value [(.int (49 : Int32)), (.int (48 : Int32)), (.int (49 : Int32)), (.int (54 : Int32)), (.int (45 : Int32)), (.int (48 : Int32)), (.int (46 : Int32)), (.int (49 : Int32)), (.int (50 : Int32))] a_RULE_1016_0_12 a_RULE_1014_8_0_114 a__VALUES a_RULE_1016_0_12_text a_RULE_1016_0_12_text_value a_RULE_1014_8_0_114_text a_RULE_1014_8_0_114_text_value k_a__VALUES k_a_RULE_1016_0_12_text_value k_a_RULE_1014_8_0_114_text_value cz T33.heap n0 (by omega) O33 (E_a_RULE_1016_0_12_text.ext O33.2) (F_a_RULE_1016_0_12_text_value.ext O33.2) (F_a_RULE_1016_0_12_text_coder.ext O33.2) (A_a_RULE_1016_0_12_text_value.ext O33.2) hcd35 S_RULE_1016_0_12 E_a_RULE_1016_0_12 S_RULE_1014_8_0_114 E_a_RULE_1014_8_0_114 S__VALUES E_a__VALUES F_a_RULE_1016_0_12_text E_a_RULE_1016_0_12_text F_a_RULE_1016_0_12_text_coder F_a_RULE_1016_0_12_text_value F_a_RULE_1016_0_12_ordinal F_a_RULE_1014_8_0_114_ordinal F_a_RULE_1014_8_0_114_text E_a_RULE_1014_8_0_114_text F_a_RULE_1014_8_0_114_text_coder F_a_RULE_1014_8_0_114_text_value A_a__VALUES A_a_RULE_1016_0_12_text_value A_a_RULE_1014_8_0_114_text_value Scz hcz) hZ33 (tw37 hw) (tw1 hw) (by decide) (by decide)) (g := (mkF m 196 #[.val (.int p1), .val (.int (0 : Int32)), .val (.ref a_RULE_1016_0_12), .val (.ref a_RULE_1014_8_0_114), .val (.ref b5), .val (.ref a_RULE_1016_0_12), .unset] [(.ref a_RULE_1016_0_12_text)])) rfl (by rw [hml]; rfl) (argsL := [(.ref a_RULE_1016_0_12_text)]) (rest := []) (lenOf pd4 rfl) rfl (by show 2 * 0 + _ ≤ _; exact Nat.le_of_eq rfl) (hb hby at_196) (fun _ _ => ⟨rfl, Kq34, (by decide : 6 + 3 ≤ _), (by decide : 80 + 58 ≤ _)⟩)
    dsimp only [Pt.U, Pt.locs, Pt.cells, Pt.slots] at Y36 hs36 hg36 l36 y36 z36 st36 hQ36
    subst l36 y36 z36
    obtain ⟨X36, hS36, hZ36, hown36⟩ := rebS hS33 (n1 := T34.heap.size) (by rw [Kq34]; omega) Y36 hs36 hg36 hZ33 hown33
    obtain ⟨rfl, N36q, Kq36⟩ := hQ36
    have N36 := Fr.app N34 N36q
    have z36 := Kq36.1
    have O36 := O33.keep Kq36 all0
    have S37 : ∀ t_, Steps p.tables e below (T36.setTop (mkF m 224 #[.val (.int p1), .val (.int (0 : Int32)), .val (.ref a_RULE_1016_0_12), .val (.ref a_RULE_1014_8_0_114), .val (.ref b5), .val (.ref a_RULE_1016_0_12), .val (.ref a_RULE_1016_0_12)] [(.int (1 : Int32))])) t_ → Steps p.tables e below (s₁.setTop (entryFrame m #[(.int p1)] maxLocals)) t_ := by
      intro t_ k_
      refine S1 t_ ?_
      show Steps p.tables e below (s₁.setTop (mkF m 3 #[.val (.int p1), .unset, .unset, .unset, .unset, .unset, .unset] [(.int (p1 &&& (1 : Int32)))])) _
      refine XS.ifYes X0.here hx rfl (pc0 := 3) (pc' := 10) rfl (hb hby at_3) rfl ((if0 _ _).trans (teq c2).1) (by decide) (by decide) ?_
      show Steps p.tables e below (s₁.setTop (mkF m 10 #[.val (.int p1), .unset, .unset, .unset, .unset, .unset, .unset] [])) _
      refine XT.iconstV X0.here hx rfl (0 : Int32) (hb hby at_10) (by decide) ?_
      show Steps p.tables e below (s₁.setTop (mkF m 11 #[.val (.int p1), .unset, .unset, .unset, .unset, .unset, .unset] [(.int (0 : Int32))])) _
      refine XS.istoreN X0.here hx rfl (hb hby at_11) rfl (l' := #[.val (.int p1), .val (.int (0 : Int32)), .unset, .unset, .unset, .unset, .unset]) rfl ?_
      show Steps p.tables e below (s₁.setTop (mkF m 12 #[.val (.int p1), .val (.int (0 : Int32)), .unset, .unset, .unset, .unset, .unset] [])) _
      refine XS.iloadN X0.here hx rfl (hb hby at_12) rfl ?_
      show Steps p.tables e below (s₁.setTop (mkF m 13 #[.val (.int p1), .val (.int (0 : Int32)), .unset, .unset, .unset, .unset, .unset] [(.int (0 : Int32))])) _
      refine XS.ifYes X0.here hx rfl (pc0 := 13) (pc' := 22) rfl (hb hby at_13) rfl (by decide) (by decide) (by decide) ?_
      show Steps p.tables e below (s₁.setTop (mkF m 22 #[.val (.int p1), .val (.int (0 : Int32)), .unset, .unset, .unset, .unset, .unset] [])) _
      refine st3 _ ?_
      show Steps p.tables e below (T3.setTop (mkF m 25 #[.val (.int p1), .val (.int (0 : Int32)), .unset, .unset, .unset, .unset, .unset] [(.ref a_RULE_1016_0_12)])) _
      refine XS.astoreN X3.here hx rfl (hb hby at_25) rfl rfl (l' := #[.val (.int p1), .val (.int (0 : Int32)), .val (.ref a_RULE_1016_0_12), .unset, .unset, .unset, .unset]) rfl ?_
      show Steps p.tables e below (T3.setTop (mkF m 26 #[.val (.int p1), .val (.int (0 : Int32)), .val (.ref a_RULE_1016_0_12), .unset, .unset, .unset, .unset] [])) _
      refine XS.iloadN X3.here hx rfl (hb hby at_26) rfl ?_
      show Steps p.tables e below (T3.setTop (mkF m 27 #[.val (.int p1), .val (.int (0 : Int32)), .val (.ref a_RULE_1016_0_12), .unset, .unset, .unset, .unset] [(.int (0 : Int32))])) _
      refine XS.ifYes X3.here hx rfl (pc0 := 27) (pc' := 36) rfl (hb hby at_27) rfl (by decide) (by decide) (by decide) ?_
      show Steps p.tables e below (T3.setTop (mkF m 36 #[.val (.int p1), .val (.int (0 : Int32)), .val (.ref a_RULE_1016_0_12), .unset, .unset, .unset, .unset] [])) _
      refine st4 _ ?_
      show Steps p.tables e below (T4.setTop (mkF m 39 #[.val (.int p1), .val (.int (0 : Int32)), .val (.ref a_RULE_1016_0_12), .unset, .unset, .unset, .unset] [(.ref a_RULE_1014_8_0_114)])) _
      refine XS.astoreN X4.here hx rfl (hb hby at_39) rfl rfl (l' := #[.val (.int p1), .val (.int (0 : Int32)), .val (.ref a_RULE_1016_0_12), .val (.ref a_RULE_1014_8_0_114), .unset, .unset, .unset]) rfl ?_
      show Steps p.tables e below (T4.setTop (mkF m 40 #[.val (.int p1), .val (.int (0 : Int32)), .val (.ref a_RULE_1016_0_12), .val (.ref a_RULE_1014_8_0_114), .unset, .unset, .unset] [])) _
      refine XS.iloadN X4.here hx rfl (hb hby at_40) rfl ?_
      show Steps p.tables e below (T4.setTop (mkF m 41 #[.val (.int p1), .val (.int (0 : Int32)), .val (.ref a_RULE_1016_0_12), .val (.ref a_RULE_1014_8_0_114), .unset, .unset, .unset] [(.int (0 : Int32))])) _
      refine XS.ifYes X4.here hx rfl (pc0 := 41) (pc' := 124) rfl (hb hby at_41) rfl (by decide) (by decide) (by decide) ?_
      show Steps p.tables e below (T4.setTop (mkF m 124 #[.val (.int p1), .val (.int (0 : Int32)), .val (.ref a_RULE_1016_0_12), .val (.ref a_RULE_1014_8_0_114), .unset, .unset, .unset] [])) _
      refine st5 _ ?_
      show Steps p.tables e below (T5.setTop (mkF m 127 #[.val (.int p1), .val (.int (0 : Int32)), .val (.ref a_RULE_1016_0_12), .val (.ref a_RULE_1014_8_0_114), .unset, .unset, .unset] [(.ref b5)])) _
      refine XS.dup X5.here hx rfl (hb hby at_127) rfl rfl ?_
      show Steps p.tables e below (T5.setTop (mkF m 128 #[.val (.int p1), .val (.int (0 : Int32)), .val (.ref a_RULE_1016_0_12), .val (.ref a_RULE_1014_8_0_114), .unset, .unset, .unset] [(.ref b5), (.ref b5)])) _
      refine XT.bipushV X5.here hx rfl (9 : Int32) (hb hby at_128) (by decide) ?_
      show Steps p.tables e below (T5.setTop (mkF m 130 #[.val (.int p1), .val (.int (0 : Int32)), .val (.ref a_RULE_1016_0_12), .val (.ref a_RULE_1014_8_0_114), .unset, .unset, .unset] [(.int (9 : Int32)), (.ref b5), (.ref b5)])) _
      refine st8 _ ?_
      show Steps p.tables e below (T8.setTop (mkF m 132 #[.val (.int p1), .val (.int (0 : Int32)), .val (.ref a_RULE_1016_0_12), .val (.ref a_RULE_1014_8_0_114), .unset, .unset, .unset] [(.ref b8), (.ref b5), (.ref b5)])) _
      refine XS.dup X8.here hx rfl (hb hby at_132) rfl rfl ?_
      show Steps p.tables e below (T8.setTop (mkF m 133 #[.val (.int p1), .val (.int (0 : Int32)), .val (.ref a_RULE_1016_0_12), .val (.ref a_RULE_1014_8_0_114), .unset, .unset, .unset] [(.ref b8), (.ref b8), (.ref b5), (.ref b5)])) _
      refine XT.iconstV X8.here hx rfl (0 : Int32) (hb hby at_133) (by decide) ?_
      show Steps p.tables e below (T8.setTop (mkF m 134 #[.val (.int p1), .val (.int (0 : Int32)), .val (.ref a_RULE_1016_0_12), .val (.ref a_RULE_1014_8_0_114), .unset, .unset, .unset] [(.int (0 : Int32)), (.ref b8), (.ref b8), (.ref b5), (.ref b5)])) _
      refine XT.bipushV X8.here hx rfl (49 : Int32) (hb hby at_134) (by decide) ?_
      show Steps p.tables e below (T8.setTop (mkF m 136 #[.val (.int p1), .val (.int (0 : Int32)), .val (.ref a_RULE_1016_0_12), .val (.ref a_RULE_1014_8_0_114), .unset, .unset, .unset] [(.int (49 : Int32)), (.int (0 : Int32)), (.ref b8), (.ref b8), (.ref b5), (.ref b5)])) _
      refine st10 _ ?_
      show Steps p.tables e below (T10.setTop (mkF m 137 #[.val (.int p1), .val (.int (0 : Int32)), .val (.ref a_RULE_1016_0_12), .val (.ref a_RULE_1014_8_0_114), .unset, .unset, .unset] [(.ref b8), (.ref b5), (.ref b5)])) _
      refine XS.dup X10.here hx rfl (hb hby at_137) rfl rfl ?_
      show Steps p.tables e below (T10.setTop (mkF m 138 #[.val (.int p1), .val (.int (0 : Int32)), .val (.ref a_RULE_1016_0_12), .val (.ref a_RULE_1014_8_0_114), .unset, .unset, .unset] [(.ref b8), (.ref b8), (.ref b5), (.ref b5)])) _
      refine XT.iconstV X10.here hx rfl (1 : Int32) (hb hby at_138) (by decide) ?_
      show Steps p.tables e below (T10.setTop (mkF m 139 #[.val (.int p1), .val (.int (0 : Int32)), .val (.ref a_RULE_1016_0_12), .val (.ref a_RULE_1014_8_0_114), .unset, .unset, .unset] [(.int (1 : Int32)), (.ref b8), (.ref b8), (.ref b5), (.ref b5)])) _
      refine XT.bipushV X10.here hx rfl (48 : Int32) (hb hby at_139) (by decide) ?_
      show Steps p.tables e below (T10.setTop (mkF m 141 #[.val (.int p1), .val (.int (0 : Int32)), .val (.ref a_RULE_1016_0_12), .val (.ref a_RULE_1014_8_0_114), .unset, .unset, .unset] [(.int (48 : Int32)), (.int (1 : Int32)), (.ref b8), (.ref b8), (.ref b5), (.ref b5)])) _
      refine st12 _ ?_
      show Steps p.tables e below (T12.setTop (mkF m 142 #[.val (.int p1), .val (.int (0 : Int32)), .val (.ref a_RULE_1016_0_12), .val (.ref a_RULE_1014_8_0_114), .unset, .unset, .unset] [(.ref b8), (.ref b5), (.ref b5)])) _
      refine XS.dup X12.here hx rfl (hb hby at_142) rfl rfl ?_
      show Steps p.tables e below (T12.setTop (mkF m 143 #[.val (.int p1), .val (.int (0 : Int32)), .val (.ref a_RULE_1016_0_12), .val (.ref a_RULE_1014_8_0_114), .unset, .unset, .unset] [(.ref b8), (.ref b8), (.ref b5), (.ref b5)])) _
      refine XT.iconstV X12.here hx rfl (2 : Int32) (hb hby at_143) (by decide) ?_
      show Steps p.tables e below (T12.setTop (mkF m 144 #[.val (.int p1), .val (.int (0 : Int32)), .val (.ref a_RULE_1016_0_12), .val (.ref a_RULE_1014_8_0_114), .unset, .unset, .unset] [(.int (2 : Int32)), (.ref b8), (.ref b8), (.ref b5), (.ref b5)])) _
      refine XT.bipushV X12.here hx rfl (49 : Int32) (hb hby at_144) (by decide) ?_
      show Steps p.tables e below (T12.setTop (mkF m 146 #[.val (.int p1), .val (.int (0 : Int32)), .val (.ref a_RULE_1016_0_12), .val (.ref a_RULE_1014_8_0_114), .unset, .unset, .unset] [(.int (49 : Int32)), (.int (2 : Int32)), (.ref b8), (.ref b8), (.ref b5), (.ref b5)])) _
      refine st14 _ ?_
      show Steps p.tables e below (T14.setTop (mkF m 147 #[.val (.int p1), .val (.int (0 : Int32)), .val (.ref a_RULE_1016_0_12), .val (.ref a_RULE_1014_8_0_114), .unset, .unset, .unset] [(.ref b8), (.ref b5), (.ref b5)])) _
      refine XS.dup X14.here hx rfl (hb hby at_147) rfl rfl ?_
      show Steps p.tables e below (T14.setTop (mkF m 148 #[.val (.int p1), .val (.int (0 : Int32)), .val (.ref a_RULE_1016_0_12), .val (.ref a_RULE_1014_8_0_114), .unset, .unset, .unset] [(.ref b8), (.ref b8), (.ref b5), (.ref b5)])) _
      refine XT.iconstV X14.here hx rfl (3 : Int32) (hb hby at_148) (by decide) ?_
      show Steps p.tables e below (T14.setTop (mkF m 149 #[.val (.int p1), .val (.int (0 : Int32)), .val (.ref a_RULE_1016_0_12), .val (.ref a_RULE_1014_8_0_114), .unset, .unset, .unset] [(.int (3 : Int32)), (.ref b8), (.ref b8), (.ref b5), (.ref b5)])) _
      refine XT.bipushV X14.here hx rfl (54 : Int32) (hb hby at_149) (by decide) ?_
      show Steps p.tables e below (T14.setTop (mkF m 151 #[.val (.int p1), .val (.int (0 : Int32)), .val (.ref a_RULE_1016_0_12), .val (.ref a_RULE_1014_8_0_114), .unset, .unset, .unset] [(.int (54 : Int32)), (.int (3 : Int32)), (.ref b8), (.ref b8), (.ref b5), (.ref b5)])) _
      refine st16 _ ?_
      show Steps p.tables e below (T16.setTop (mkF m 152 #[.val (.int p1), .val (.int (0 : Int32)), .val (.ref a_RULE_1016_0_12), .val (.ref a_RULE_1014_8_0_114), .unset, .unset, .unset] [(.ref b8), (.ref b5), (.ref b5)])) _
      refine XS.dup X16.here hx rfl (hb hby at_152) rfl rfl ?_
      show Steps p.tables e below (T16.setTop (mkF m 153 #[.val (.int p1), .val (.int (0 : Int32)), .val (.ref a_RULE_1016_0_12), .val (.ref a_RULE_1014_8_0_114), .unset, .unset, .unset] [(.ref b8), (.ref b8), (.ref b5), (.ref b5)])) _
      refine XT.iconstV X16.here hx rfl (4 : Int32) (hb hby at_153) (by decide) ?_
      show Steps p.tables e below (T16.setTop (mkF m 154 #[.val (.int p1), .val (.int (0 : Int32)), .val (.ref a_RULE_1016_0_12), .val (.ref a_RULE_1014_8_0_114), .unset, .unset, .unset] [(.int (4 : Int32)), (.ref b8), (.ref b8), (.ref b5), (.ref b5)])) _
      refine XT.bipushV X16.here hx rfl (45 : Int32) (hb hby at_154) (by decide) ?_
      show Steps p.tables e below (T16.setTop (mkF m 156 #[.val (.int p1), .val (.int (0 : Int32)), .val (.ref a_RULE_1016_0_12), .val (.ref a_RULE_1014_8_0_114), .unset, .unset, .unset] [(.int (45 : Int32)), (.int (4 : Int32)), (.ref b8), (.ref b8), (.ref b5), (.ref b5)])) _
      refine st18 _ ?_
      show Steps p.tables e below (T18.setTop (mkF m 157 #[.val (.int p1), .val (.int (0 : Int32)), .val (.ref a_RULE_1016_0_12), .val (.ref a_RULE_1014_8_0_114), .unset, .unset, .unset] [(.ref b8), (.ref b5), (.ref b5)])) _
      refine XS.dup X18.here hx rfl (hb hby at_157) rfl rfl ?_
      show Steps p.tables e below (T18.setTop (mkF m 158 #[.val (.int p1), .val (.int (0 : Int32)), .val (.ref a_RULE_1016_0_12), .val (.ref a_RULE_1014_8_0_114), .unset, .unset, .unset] [(.ref b8), (.ref b8), (.ref b5), (.ref b5)])) _
      refine XT.iconstV X18.here hx rfl (5 : Int32) (hb hby at_158) (by decide) ?_
      show Steps p.tables e below (T18.setTop (mkF m 159 #[.val (.int p1), .val (.int (0 : Int32)), .val (.ref a_RULE_1016_0_12), .val (.ref a_RULE_1014_8_0_114), .unset, .unset, .unset] [(.int (5 : Int32)), (.ref b8), (.ref b8), (.ref b5), (.ref b5)])) _
      refine XT.bipushV X18.here hx rfl (48 : Int32) (hb hby at_159) (by decide) ?_
      show Steps p.tables e below (T18.setTop (mkF m 161 #[.val (.int p1), .val (.int (0 : Int32)), .val (.ref a_RULE_1016_0_12), .val (.ref a_RULE_1014_8_0_114), .unset, .unset, .unset] [(.int (48 : Int32)), (.int (5 : Int32)), (.ref b8), (.ref b8), (.ref b5), (.ref b5)])) _
      refine st20 _ ?_
      show Steps p.tables e below (T20.setTop (mkF m 162 #[.val (.int p1), .val (.int (0 : Int32)), .val (.ref a_RULE_1016_0_12), .val (.ref a_RULE_1014_8_0_114), .unset, .unset, .unset] [(.ref b8), (.ref b5), (.ref b5)])) _
      refine XS.dup X20.here hx rfl (hb hby at_162) rfl rfl ?_
      show Steps p.tables e below (T20.setTop (mkF m 163 #[.val (.int p1), .val (.int (0 : Int32)), .val (.ref a_RULE_1016_0_12), .val (.ref a_RULE_1014_8_0_114), .unset, .unset, .unset] [(.ref b8), (.ref b8), (.ref b5), (.ref b5)])) _
      refine XT.bipushV X20.here hx rfl (6 : Int32) (hb hby at_163) (by decide) ?_
      show Steps p.tables e below (T20.setTop (mkF m 165 #[.val (.int p1), .val (.int (0 : Int32)), .val (.ref a_RULE_1016_0_12), .val (.ref a_RULE_1014_8_0_114), .unset, .unset, .unset] [(.int (6 : Int32)), (.ref b8), (.ref b8), (.ref b5), (.ref b5)])) _
      refine XT.bipushV X20.here hx rfl (46 : Int32) (hb hby at_165) (by decide) ?_
      show Steps p.tables e below (T20.setTop (mkF m 167 #[.val (.int p1), .val (.int (0 : Int32)), .val (.ref a_RULE_1016_0_12), .val (.ref a_RULE_1014_8_0_114), .unset, .unset, .unset] [(.int (46 : Int32)), (.int (6 : Int32)), (.ref b8), (.ref b8), (.ref b5), (.ref b5)])) _
      refine st22 _ ?_
      show Steps p.tables e below (T22.setTop (mkF m 168 #[.val (.int p1), .val (.int (0 : Int32)), .val (.ref a_RULE_1016_0_12), .val (.ref a_RULE_1014_8_0_114), .unset, .unset, .unset] [(.ref b8), (.ref b5), (.ref b5)])) _
      refine XS.dup X22.here hx rfl (hb hby at_168) rfl rfl ?_
      show Steps p.tables e below (T22.setTop (mkF m 169 #[.val (.int p1), .val (.int (0 : Int32)), .val (.ref a_RULE_1016_0_12), .val (.ref a_RULE_1014_8_0_114), .unset, .unset, .unset] [(.ref b8), (.ref b8), (.ref b5), (.ref b5)])) _
      refine XT.bipushV X22.here hx rfl (7 : Int32) (hb hby at_169) (by decide) ?_
      show Steps p.tables e below (T22.setTop (mkF m 171 #[.val (.int p1), .val (.int (0 : Int32)), .val (.ref a_RULE_1016_0_12), .val (.ref a_RULE_1014_8_0_114), .unset, .unset, .unset] [(.int (7 : Int32)), (.ref b8), (.ref b8), (.ref b5), (.ref b5)])) _
      refine XT.bipushV X22.here hx rfl (49 : Int32) (hb hby at_171) (by decide) ?_
      show Steps p.tables e below (T22.setTop (mkF m 173 #[.val (.int p1), .val (.int (0 : Int32)), .val (.ref a_RULE_1016_0_12), .val (.ref a_RULE_1014_8_0_114), .unset, .unset, .unset] [(.int (49 : Int32)), (.int (7 : Int32)), (.ref b8), (.ref b8), (.ref b5), (.ref b5)])) _
      refine st24 _ ?_
      show Steps p.tables e below (T24.setTop (mkF m 174 #[.val (.int p1), .val (.int (0 : Int32)), .val (.ref a_RULE_1016_0_12), .val (.ref a_RULE_1014_8_0_114), .unset, .unset, .unset] [(.ref b8), (.ref b5), (.ref b5)])) _
      refine XS.dup X24.here hx rfl (hb hby at_174) rfl rfl ?_
      show Steps p.tables e below (T24.setTop (mkF m 175 #[.val (.int p1), .val (.int (0 : Int32)), .val (.ref a_RULE_1016_0_12), .val (.ref a_RULE_1014_8_0_114), .unset, .unset, .unset] [(.ref b8), (.ref b8), (.ref b5), (.ref b5)])) _
      refine XT.bipushV X24.here hx rfl (8 : Int32) (hb hby at_175) (by decide) ?_
      show Steps p.tables e below (T24.setTop (mkF m 177 #[.val (.int p1), .val (.int (0 : Int32)), .val (.ref a_RULE_1016_0_12), .val (.ref a_RULE_1014_8_0_114), .unset, .unset, .unset] [(.int (8 : Int32)), (.ref b8), (.ref b8), (.ref b5), (.ref b5)])) _
      refine XT.bipushV X24.here hx rfl (50 : Int32) (hb hby at_177) (by decide) ?_
      show Steps p.tables e below (T24.setTop (mkF m 179 #[.val (.int p1), .val (.int (0 : Int32)), .val (.ref a_RULE_1016_0_12), .val (.ref a_RULE_1014_8_0_114), .unset, .unset, .unset] [(.int (50 : Int32)), (.int (8 : Int32)), (.ref b8), (.ref b8), (.ref b5), (.ref b5)])) _
      refine st26 _ ?_
      show Steps p.tables e below (T26.setTop (mkF m 180 #[.val (.int p1), .val (.int (0 : Int32)), .val (.ref a_RULE_1016_0_12), .val (.ref a_RULE_1014_8_0_114), .unset, .unset, .unset] [(.ref b8), (.ref b5), (.ref b5)])) _
      refine st31.trans ?_
      show Steps p.tables e below (T31.setTop (mkF m 183 #[.val (.int p1), .val (.int (0 : Int32)), .val (.ref a_RULE_1016_0_12), .val (.ref a_RULE_1014_8_0_114), .unset, .unset, .unset] [(.ref b5)])) _
      refine XS.astore X31.here hx rfl (hb hby at_183) rfl rfl (l' := #[.val (.int p1), .val (.int (0 : Int32)), .val (.ref a_RULE_1016_0_12), .val (.ref a_RULE_1014_8_0_114), .val (.ref b5), .unset, .unset]) rfl ?_
      show Steps p.tables e below (T31.setTop (mkF m 185 #[.val (.int p1), .val (.int (0 : Int32)), .val (.ref a_RULE_1016_0_12), .val (.ref a_RULE_1014_8_0_114), .val (.ref b5), .unset, .unset] [])) _
      refine XS.aload X31.here hx rfl (hb hby at_185) rfl rfl ?_
      show Steps p.tables e below (T31.setTop (mkF m 187 #[.val (.int p1), .val (.int (0 : Int32)), .val (.ref a_RULE_1016_0_12), .val (.ref a_RULE_1014_8_0_114), .val (.ref b5), .unset, .unset] [(.ref b5)])) _
      refine st33.trans ?_
      show Steps p.tables e below (T33.setTop (mkF m 190 #[.val (.int p1), .val (.int (0 : Int32)), .val (.ref a_RULE_1016_0_12), .val (.ref a_RULE_1014_8_0_114), .val (.ref b5), .unset, .unset] [(.ref a_RULE_1016_0_12)])) _
      refine XS.astore X33.here hx rfl (hb hby at_190) rfl rfl (l' := #[.val (.int p1), .val (.int (0 : Int32)), .val (.ref a_RULE_1016_0_12), .val (.ref a_RULE_1014_8_0_114), .val (.ref b5), .val (.ref a_RULE_1016_0_12), .unset]) rfl ?_
      show Steps p.tables e below (T33.setTop (mkF m 192 #[.val (.int p1), .val (.int (0 : Int32)), .val (.ref a_RULE_1016_0_12), .val (.ref a_RULE_1014_8_0_114), .val (.ref b5), .val (.ref a_RULE_1016_0_12), .unset] [])) _
      refine XS.aloadN X33.here hx rfl (hb hby at_192) rfl rfl ?_
      show Steps p.tables e below (T33.setTop (mkF m 193 #[.val (.int p1), .val (.int (0 : Int32)), .val (.ref a_RULE_1016_0_12), .val (.ref a_RULE_1014_8_0_114), .val (.ref b5), .val (.ref a_RULE_1016_0_12), .unset] [(.ref a_RULE_1016_0_12)])) _
      refine st34.trans ?_
      show Steps p.tables e below (T34.setTop (mkF m 196 #[.val (.int p1), .val (.int (0 : Int32)), .val (.ref a_RULE_1016_0_12), .val (.ref a_RULE_1014_8_0_114), .val (.ref b5), .val (.ref a_RULE_1016_0_12), .unset] [(.ref a_RULE_1016_0_12_text)])) _
      refine st36.trans ?_
      show Steps p.tables e below (T36.setTop (mkF m 199 #[.val (.int p1), .val (.int (0 : Int32)), .val (.ref a_RULE_1016_0_12), .val (.ref a_RULE_1014_8_0_114), .val (.ref b5), .val (.ref a_RULE_1016_0_12), .unset] [(.ref a_RULE_1016_0_12)])) _
      refine XS.astore X36.here hx rfl (hb hby at_199) rfl rfl (l' := #[.val (.int p1), .val (.int (0 : Int32)), .val (.ref a_RULE_1016_0_12), .val (.ref a_RULE_1014_8_0_114), .val (.ref b5), .val (.ref a_RULE_1016_0_12), .val (.ref a_RULE_1016_0_12)]) rfl ?_
      show Steps p.tables e below (T36.setTop (mkF m 201 #[.val (.int p1), .val (.int (0 : Int32)), .val (.ref a_RULE_1016_0_12), .val (.ref a_RULE_1014_8_0_114), .val (.ref b5), .val (.ref a_RULE_1016_0_12), .val (.ref a_RULE_1016_0_12)] [])) _
      refine XS.aload X36.here hx rfl (hb hby at_201) rfl rfl ?_
      show Steps p.tables e below (T36.setTop (mkF m 203 #[.val (.int p1), .val (.int (0 : Int32)), .val (.ref a_RULE_1016_0_12), .val (.ref a_RULE_1014_8_0_114), .val (.ref b5), .val (.ref a_RULE_1016_0_12), .val (.ref a_RULE_1016_0_12)] [(.ref a_RULE_1016_0_12)])) _
      refine XS.aloadN X36.here hx rfl (hb hby at_203) rfl rfl ?_
      show Steps p.tables e below (T36.setTop (mkF m 204 #[.val (.int p1), .val (.int (0 : Int32)), .val (.ref a_RULE_1016_0_12), .val (.ref a_RULE_1014_8_0_114), .val (.ref b5), .val (.ref a_RULE_1016_0_12), .val (.ref a_RULE_1016_0_12)] [(.ref a_RULE_1016_0_12), (.ref a_RULE_1016_0_12)])) _
      refine Jvm.RoadKit.acmp (g := (mkF m 204 #[.val (.int p1), .val (.int (0 : Int32)), .val (.ref a_RULE_1016_0_12), .val (.ref a_RULE_1014_8_0_114), .val (.ref b5), .val (.ref a_RULE_1016_0_12), .val (.ref a_RULE_1016_0_12)] [(.ref a_RULE_1016_0_12), (.ref a_RULE_1016_0_12)])) X36 hx rfl rfl rfl (pc0 := 204) (pc' := 207) (same := true) rfl (hb hby at_204) rfl (decide_eq_true rfl) (by decide) (by decide) ?_
      show Steps p.tables e below (T36.setTop (mkF m 207 #[.val (.int p1), .val (.int (0 : Int32)), .val (.ref a_RULE_1016_0_12), .val (.ref a_RULE_1014_8_0_114), .val (.ref b5), .val (.ref a_RULE_1016_0_12), .val (.ref a_RULE_1016_0_12)] [])) _
      refine XS.aload X36.here hx rfl (hb hby at_207) rfl rfl ?_
      show Steps p.tables e below (T36.setTop (mkF m 209 #[.val (.int p1), .val (.int (0 : Int32)), .val (.ref a_RULE_1016_0_12), .val (.ref a_RULE_1014_8_0_114), .val (.ref b5), .val (.ref a_RULE_1016_0_12), .val (.ref a_RULE_1016_0_12)] [(.ref a_RULE_1016_0_12)])) _
      refine XS.aloadN X36.here hx rfl (hb hby at_209) rfl rfl ?_
      show Steps p.tables e below (T36.setTop (mkF m 210 #[.val (.int p1), .val (.int (0 : Int32)), .val (.ref a_RULE_1016_0_12), .val (.ref a_RULE_1014_8_0_114), .val (.ref b5), .val (.ref a_RULE_1016_0_12), .val (.ref a_RULE_1016_0_12)] [(.ref a_RULE_1014_8_0_114), (.ref a_RULE_1016_0_12)])) _
      refine Jvm.RoadKit.acmp (g := (mkF m 210 #[.val (.int p1), .val (.int (0 : Int32)), .val (.ref a_RULE_1016_0_12), .val (.ref a_RULE_1014_8_0_114), .val (.ref b5), .val (.ref a_RULE_1016_0_12), .val (.ref a_RULE_1016_0_12)] [(.ref a_RULE_1014_8_0_114), (.ref a_RULE_1016_0_12)])) X36 hx rfl rfl rfl (pc0 := 210) (pc' := 213) (same := false) rfl (hb hby at_210) rfl (decide_eq_false fun q => (Fld.ne F_a_RULE_1016_0_12_ordinal F_a_RULE_1014_8_0_114_ordinal (by decide)) (Value.ref.inj q)) (by decide) (by decide) ?_
      show Steps p.tables e below (T36.setTop (mkF m 213 #[.val (.int p1), .val (.int (0 : Int32)), .val (.ref a_RULE_1016_0_12), .val (.ref a_RULE_1014_8_0_114), .val (.ref b5), .val (.ref a_RULE_1016_0_12), .val (.ref a_RULE_1016_0_12)] [])) _
      refine XS.aload X36.here hx rfl (hb hby at_213) rfl rfl ?_
      show Steps p.tables e below (T36.setTop (mkF m 215 #[.val (.int p1), .val (.int (0 : Int32)), .val (.ref a_RULE_1016_0_12), .val (.ref a_RULE_1014_8_0_114), .val (.ref b5), .val (.ref a_RULE_1016_0_12), .val (.ref a_RULE_1016_0_12)] [(.ref a_RULE_1016_0_12)])) _
      refine XS.aloadN X36.here hx rfl (hb hby at_215) rfl rfl ?_
      show Steps p.tables e below (T36.setTop (mkF m 216 #[.val (.int p1), .val (.int (0 : Int32)), .val (.ref a_RULE_1016_0_12), .val (.ref a_RULE_1014_8_0_114), .val (.ref b5), .val (.ref a_RULE_1016_0_12), .val (.ref a_RULE_1016_0_12)] [(.ref a_RULE_1016_0_12), (.ref a_RULE_1016_0_12)])) _
      refine Jvm.RoadKit.acmp (g := (mkF m 216 #[.val (.int p1), .val (.int (0 : Int32)), .val (.ref a_RULE_1016_0_12), .val (.ref a_RULE_1014_8_0_114), .val (.ref b5), .val (.ref a_RULE_1016_0_12), .val (.ref a_RULE_1016_0_12)] [(.ref a_RULE_1016_0_12), (.ref a_RULE_1016_0_12)])) X36 hx rfl rfl rfl (pc0 := 216) (pc' := 219) (same := true) rfl (hb hby at_216) rfl (decide_eq_true rfl) (by decide) (by decide) ?_
      show Steps p.tables e below (T36.setTop (mkF m 219 #[.val (.int p1), .val (.int (0 : Int32)), .val (.ref a_RULE_1016_0_12), .val (.ref a_RULE_1014_8_0_114), .val (.ref b5), .val (.ref a_RULE_1016_0_12), .val (.ref a_RULE_1016_0_12)] [])) _
      refine XT.iconstV X36.here hx rfl (1 : Int32) (hb hby at_219) (by decide) ?_
      show Steps p.tables e below (T36.setTop (mkF m 220 #[.val (.int p1), .val (.int (0 : Int32)), .val (.ref a_RULE_1016_0_12), .val (.ref a_RULE_1014_8_0_114), .val (.ref b5), .val (.ref a_RULE_1016_0_12), .val (.ref a_RULE_1016_0_12)] [(.int (1 : Int32))])) _
      refine XS.goto X36.here hx rfl (pc0 := 220) (pc' := 224) rfl (hb hby at_220) (by decide) (by decide) ?_
      exact k_
    obtain ⟨fs, hr, hrun, hended, hRW⟩ := X36.leaveW hS36 (by omega) (v := (some (.int (1 : Int32)))) (fun h => by rw [Bd.returns] at h; cases h)
    refine ⟨_, _, S37 _ ((retN X36 hx (t := .boolean) Bd.returns (by simp) (hb hby at_224) hr)), hrun, hended, _, _, rfl, ?_, hRW.1, hRW.2.1, hRW.2.2.1, hRW.2.2.2.mono (by decide) (by decide)⟩
    show Q_law Z p1 cz a_RULE_1016_0_12 a_RULE_1014_8_0_114 a__VALUES a_RULE_1016_0_12_text a_RULE_1016_0_12_text_value a_RULE_1014_8_0_114_text a_RULE_1014_8_0_114_text_value k_a__VALUES k_a_RULE_1016_0_12_text_value k_a_RULE_1014_8_0_114_text_value h0 n0 _ T36.heap _
    exact ⟨rfl, N36⟩
  · -- ¬ (p1 &&& (1 : Int32)) = (0 : Int32)
    obtain ⟨T38, X38, e38, st38⟩ := getS2 X0 hx hZ0 hown0 (host := "") (Or.inl (tw3 hw)) Via.refl e0 (S_RULE_1014_8_0_114.ext O0.2) (g := (mkF m 16 #[.val (.int p1), .val (.int (1 : Int32)), .unset, .unset, .unset, .unset, .unset] [])) rfl (hb hby at_16)
    obtain ⟨T39, X39, e39, st39⟩ := getS2 X38 hx hZ0 hown0 (host := "") (Or.inl (tw0 hw)) Via.refl e38 (S_RULE_1016_0_12.ext O0.2) (g := (mkF m 30 #[.val (.int p1), .val (.int (1 : Int32)), .val (.ref a_RULE_1014_8_0_114), .unset, .unset, .unset, .unset] [])) rfl (hb hby at_30)
    obtain ⟨T40, h40, X40, e40, E40, A40, D40, -, st40⟩ := newO X39 hx hZ0 hown0 (tw5 hw) (tw6 hw) (tw7 hw) e39 (g := (mkF m 44 #[.val (.int p1), .val (.int (1 : Int32)), .val (.ref a_RULE_1014_8_0_114), .val (.ref a_RULE_1016_0_12), .unset, .unset, .unset] [])) rfl (hb hby at_44) (by decide) (by decide)
    obtain ⟨b40, g40⟩ : ∃ z, z = h0.size := ⟨_, rfl⟩
    rw [← g40] at A40 D40 st40
    have lb40 : (b40 : Nat) < (h40.size : Nat) := A40.lt
    have z40 := E40.1
    have O40 := O0.ext E40
    have f41 : Fld Z h40 b40 "java/lang/String" "coder" "B" (.int (0 : Int32)) := D40 (Or.inr (tw32 hw)) (ty := .byte) (by decide)
    have f42 : Fld Z h40 b40 "java/lang/String" "value" "[B" .null := D40 (Or.inr (tw34 hw)) (ty := (.array .byte)) (by decide)
    obtain ⟨T43, h43, k43, X43, e43, E43, A43, st43⟩ := newP X40 hx hZ0 (aty := .char) (tw8 hw) e40 (g := (mkF m 50 #[.val (.int p1), .val (.int (1 : Int32)), .val (.ref a_RULE_1014_8_0_114), .val (.ref a_RULE_1016_0_12), .unset, .unset, .unset] [(.int (12 : Int32)), (.ref b40), (.ref b40)])) rfl (hb hby at_50) rfl (by decide) (cap := 12) (by decide) (by decide) (by decide) (by decide)
    obtain ⟨b43, g43⟩ : ∃ z, z = h40.size := ⟨_, rfl⟩
    rw [← g43] at A43 st43
    have lb43 : (b43 : Nat) < (h43.size : Nat) := A43.lt
    have v43 : Arv Z h43 b43 k43 .char (12 : Int32) [(.int (0 : Int32)), (.int (0 : Int32)), (.int (0 : Int32)), (.int (0 : Int32)), (.int (0 : Int32)), (.int (0 : Int32)), (.int (0 : Int32)), (.int (0 : Int32)), (.int (0 : Int32)), (.int (0 : Int32)), (.int (0 : Int32)), (.int (0 : Int32))] (.int (0 : Int32)) := (Arv.new A43 (by decide)).pad (pad_rep [] (.int (0 : Int32)) 12)
    have z43 := E43.1
    have O43 := O40.ext E43
    obtain ⟨cl44, Ar44, q44, Sz44, Nn44, H44, G44⟩ := id v43
    have hin44 : ¬ ((0 : Int32) < 0 ∨ cl44.slots.size ≤ ((0 : Int32)).toNatClampNeg) := inb_of Sz44 ⟨by decide, by decide⟩
    obtain ⟨T45, h45, X45, e45, W45, st45⟩ := stC X43 hx hZ0 e43 Ar44 (j := (0 : Int32)) hin44 (g := (mkF m 56 #[.val (.int p1), .val (.int (1 : Int32)), .val (.ref a_RULE_1014_8_0_114), .val (.ref a_RULE_1016_0_12), .unset, .unset, .unset] [(.int (49 : Int32)), (.int (0 : Int32)), (.ref b43), (.ref b43), (.ref b40), (.ref b40)])) rfl rfl (hb hby at_56)
    have W45 : Wr h43 h45 b43 ((0 : Int32)).toNatClampNeg (.int (49 : Int32)) := W45
    have z45 := W45.size
    have N45 := Fr.snoc X45 N0 (by omega)
    have O45 := O43.wr W45 (by omega)
    have v45 : Arv Z h45 b43 k43 .char (12 : Int32) [(.int (49 : Int32)), (.int (0 : Int32)), (.int (0 : Int32)), (.int (0 : Int32)), (.int (0 : Int32)), (.int (0 : Int32)), (.int (0 : Int32)), (.int (0 : Int32)), (.int (0 : Int32)), (.int (0 : Int32)), (.int (0 : Int32)), (.int (0 : Int32))] (.int (0 : Int32)) := Arv.set Ar44 q44 Sz44 Nn44 H44 G44 rfl W45 0 rfl (Nat.le_of_ble_eq_true rfl)
    obtain ⟨cl46, Ar46, q46, Sz46, Nn46, H46, G46⟩ := id v45
    have hin46 : ¬ ((1 : Int32) < 0 ∨ cl46.slots.size ≤ ((1 : Int32)).toNatClampNeg) := inb_of Sz46 ⟨by decide, by decide⟩
    obtain ⟨T47, h47, X47, e47, W47, st47⟩ := stC X45 hx hZ0 e45 Ar46 (j := (1 : Int32)) hin46 (g := (mkF m 61 #[.val (.int p1), .val (.int (1 : Int32)), .val (.ref a_RULE_1014_8_0_114), .val (.ref a_RULE_1016_0_12), .unset, .unset, .unset] [(.int (48 : Int32)), (.int (1 : Int32)), (.ref b43), (.ref b43), (.ref b40), (.ref b40)])) rfl rfl (hb hby at_61)
    have W47 : Wr h45 h47 b43 ((1 : Int32)).toNatClampNeg (.int (48 : Int32)) := W47
    have z47 := W47.size
    have N47 := Fr.snoc X47 N45 (by omega)
    have O47 := O45.wr W47 (by omega)
    have v47 : Arv Z h47 b43 k43 .char (12 : Int32) [(.int (49 : Int32)), (.int (48 : Int32)), (.int (0 : Int32)), (.int (0 : Int32)), (.int (0 : Int32)), (.int (0 : Int32)), (.int (0 : Int32)), (.int (0 : Int32)), (.int (0 : Int32)), (.int (0 : Int32)), (.int (0 : Int32)), (.int (0 : Int32))] (.int (0 : Int32)) := Arv.set Ar46 q46 Sz46 Nn46 H46 G46 rfl W47 1 rfl (Nat.le_of_ble_eq_true rfl)
    obtain ⟨cl48, Ar48, q48, Sz48, Nn48, H48, G48⟩ := id v47
    have hin48 : ¬ ((2 : Int32) < 0 ∨ cl48.slots.size ≤ ((2 : Int32)).toNatClampNeg) := inb_of Sz48 ⟨by decide, by decide⟩
    obtain ⟨T49, h49, X49, e49, W49, st49⟩ := stC X47 hx hZ0 e47 Ar48 (j := (2 : Int32)) hin48 (g := (mkF m 66 #[.val (.int p1), .val (.int (1 : Int32)), .val (.ref a_RULE_1014_8_0_114), .val (.ref a_RULE_1016_0_12), .unset, .unset, .unset] [(.int (49 : Int32)), (.int (2 : Int32)), (.ref b43), (.ref b43), (.ref b40), (.ref b40)])) rfl rfl (hb hby at_66)
    have W49 : Wr h47 h49 b43 ((2 : Int32)).toNatClampNeg (.int (49 : Int32)) := W49
    have z49 := W49.size
    have N49 := Fr.snoc X49 N47 (by omega)
    have O49 := O47.wr W49 (by omega)
    have v49 : Arv Z h49 b43 k43 .char (12 : Int32) [(.int (49 : Int32)), (.int (48 : Int32)), (.int (49 : Int32)), (.int (0 : Int32)), (.int (0 : Int32)), (.int (0 : Int32)), (.int (0 : Int32)), (.int (0 : Int32)), (.int (0 : Int32)), (.int (0 : Int32)), (.int (0 : Int32)), (.int (0 : Int32))] (.int (0 : Int32)) := Arv.set Ar48 q48 Sz48 Nn48 H48 G48 rfl W49 2 rfl (Nat.le_of_ble_eq_true rfl)
    obtain ⟨cl50, Ar50, q50, Sz50, Nn50, H50, G50⟩ := id v49
    have hin50 : ¬ ((3 : Int32) < 0 ∨ cl50.slots.size ≤ ((3 : Int32)).toNatClampNeg) := inb_of Sz50 ⟨by decide, by decide⟩
    obtain ⟨T51, h51, X51, e51, W51, st51⟩ := stC X49 hx hZ0 e49 Ar50 (j := (3 : Int32)) hin50 (g := (mkF m 71 #[.val (.int p1), .val (.int (1 : Int32)), .val (.ref a_RULE_1014_8_0_114), .val (.ref a_RULE_1016_0_12), .unset, .unset, .unset] [(.int (52 : Int32)), (.int (3 : Int32)), (.ref b43), (.ref b43), (.ref b40), (.ref b40)])) rfl rfl (hb hby at_71)
    have W51 : Wr h49 h51 b43 ((3 : Int32)).toNatClampNeg (.int (52 : Int32)) := W51
    have z51 := W51.size
    have N51 := Fr.snoc X51 N49 (by omega)
    have O51 := O49.wr W51 (by omega)
    have v51 : Arv Z h51 b43 k43 .char (12 : Int32) [(.int (49 : Int32)), (.int (48 : Int32)), (.int (49 : Int32)), (.int (52 : Int32)), (.int (0 : Int32)), (.int (0 : Int32)), (.int (0 : Int32)), (.int (0 : Int32)), (.int (0 : Int32)), (.int (0 : Int32)), (.int (0 : Int32)), (.int (0 : Int32))] (.int (0 : Int32)) := Arv.set Ar50 q50 Sz50 Nn50 H50 G50 rfl W51 3 rfl (Nat.le_of_ble_eq_true rfl)
    obtain ⟨cl52, Ar52, q52, Sz52, Nn52, H52, G52⟩ := id v51
    have hin52 : ¬ ((4 : Int32) < 0 ∨ cl52.slots.size ≤ ((4 : Int32)).toNatClampNeg) := inb_of Sz52 ⟨by decide, by decide⟩
    obtain ⟨T53, h53, X53, e53, W53, st53⟩ := stC X51 hx hZ0 e51 Ar52 (j := (4 : Int32)) hin52 (g := (mkF m 76 #[.val (.int p1), .val (.int (1 : Int32)), .val (.ref a_RULE_1014_8_0_114), .val (.ref a_RULE_1016_0_12), .unset, .unset, .unset] [(.int (46 : Int32)), (.int (4 : Int32)), (.ref b43), (.ref b43), (.ref b40), (.ref b40)])) rfl rfl (hb hby at_76)
    have W53 : Wr h51 h53 b43 ((4 : Int32)).toNatClampNeg (.int (46 : Int32)) := W53
    have z53 := W53.size
    have N53 := Fr.snoc X53 N51 (by omega)
    have O53 := O51.wr W53 (by omega)
    have v53 : Arv Z h53 b43 k43 .char (12 : Int32) [(.int (49 : Int32)), (.int (48 : Int32)), (.int (49 : Int32)), (.int (52 : Int32)), (.int (46 : Int32)), (.int (0 : Int32)), (.int (0 : Int32)), (.int (0 : Int32)), (.int (0 : Int32)), (.int (0 : Int32)), (.int (0 : Int32)), (.int (0 : Int32))] (.int (0 : Int32)) := Arv.set Ar52 q52 Sz52 Nn52 H52 G52 rfl W53 4 rfl (Nat.le_of_ble_eq_true rfl)
    obtain ⟨cl54, Ar54, q54, Sz54, Nn54, H54, G54⟩ := id v53
    have hin54 : ¬ ((5 : Int32) < 0 ∨ cl54.slots.size ≤ ((5 : Int32)).toNatClampNeg) := inb_of Sz54 ⟨by decide, by decide⟩
    obtain ⟨T55, h55, X55, e55, W55, st55⟩ := stC X53 hx hZ0 e53 Ar54 (j := (5 : Int32)) hin54 (g := (mkF m 81 #[.val (.int p1), .val (.int (1 : Int32)), .val (.ref a_RULE_1014_8_0_114), .val (.ref a_RULE_1016_0_12), .unset, .unset, .unset] [(.int (56 : Int32)), (.int (5 : Int32)), (.ref b43), (.ref b43), (.ref b40), (.ref b40)])) rfl rfl (hb hby at_81)
    have W55 : Wr h53 h55 b43 ((5 : Int32)).toNatClampNeg (.int (56 : Int32)) := W55
    have z55 := W55.size
    have N55 := Fr.snoc X55 N53 (by omega)
    have O55 := O53.wr W55 (by omega)
    have v55 : Arv Z h55 b43 k43 .char (12 : Int32) [(.int (49 : Int32)), (.int (48 : Int32)), (.int (49 : Int32)), (.int (52 : Int32)), (.int (46 : Int32)), (.int (56 : Int32)), (.int (0 : Int32)), (.int (0 : Int32)), (.int (0 : Int32)), (.int (0 : Int32)), (.int (0 : Int32)), (.int (0 : Int32))] (.int (0 : Int32)) := Arv.set Ar54 q54 Sz54 Nn54 H54 G54 rfl W55 5 rfl (Nat.le_of_ble_eq_true rfl)
    obtain ⟨cl56, Ar56, q56, Sz56, Nn56, H56, G56⟩ := id v55
    have hin56 : ¬ ((6 : Int32) < 0 ∨ cl56.slots.size ≤ ((6 : Int32)).toNatClampNeg) := inb_of Sz56 ⟨by decide, by decide⟩
    obtain ⟨T57, h57, X57, e57, W57, st57⟩ := stC X55 hx hZ0 e55 Ar56 (j := (6 : Int32)) hin56 (g := (mkF m 87 #[.val (.int p1), .val (.int (1 : Int32)), .val (.ref a_RULE_1014_8_0_114), .val (.ref a_RULE_1016_0_12), .unset, .unset, .unset] [(.int (45 : Int32)), (.int (6 : Int32)), (.ref b43), (.ref b43), (.ref b40), (.ref b40)])) rfl rfl (hb hby at_87)
    have W57 : Wr h55 h57 b43 ((6 : Int32)).toNatClampNeg (.int (45 : Int32)) := W57
    have z57 := W57.size
    have N57 := Fr.snoc X57 N55 (by omega)
    have O57 := O55.wr W57 (by omega)
    have v57 : Arv Z h57 b43 k43 .char (12 : Int32) [(.int (49 : Int32)), (.int (48 : Int32)), (.int (49 : Int32)), (.int (52 : Int32)), (.int (46 : Int32)), (.int (56 : Int32)), (.int (45 : Int32)), (.int (0 : Int32)), (.int (0 : Int32)), (.int (0 : Int32)), (.int (0 : Int32)), (.int (0 : Int32))] (.int (0 : Int32)) := Arv.set Ar56 q56 Sz56 Nn56 H56 G56 rfl W57 6 rfl (Nat.le_of_ble_eq_true rfl)
    obtain ⟨cl58, Ar58, q58, Sz58, Nn58, H58, G58⟩ := id v57
    have hin58 : ¬ ((7 : Int32) < 0 ∨ cl58.slots.size ≤ ((7 : Int32)).toNatClampNeg) := inb_of Sz58 ⟨by decide, by decide⟩
    obtain ⟨T59, h59, X59, e59, W59, st59⟩ := stC X57 hx hZ0 e57 Ar58 (j := (7 : Int32)) hin58 (g := (mkF m 93 #[.val (.int p1), .val (.int (1 : Int32)), .val (.ref a_RULE_1014_8_0_114), .val (.ref a_RULE_1016_0_12), .unset, .unset, .unset] [(.int (48 : Int32)), (.int (7 : Int32)), (.ref b43), (.ref b43), (.ref b40), (.ref b40)])) rfl rfl (hb hby at_93)
    have W59 : Wr h57 h59 b43 ((7 : Int32)).toNatClampNeg (.int (48 : Int32)) := W59
    have z59 := W59.size
    have N59 := Fr.snoc X59 N57 (by omega)
    have O59 := O57.wr W59 (by omega)
    have v59 : Arv Z h59 b43 k43 .char (12 : Int32) [(.int (49 : Int32)), (.int (48 : Int32)), (.int (49 : Int32)), (.int (52 : Int32)), (.int (46 : Int32)), (.int (56 : Int32)), (.int (45 : Int32)), (.int (48 : Int32)), (.int (0 : Int32)), (.int (0 : Int32)), (.int (0 : Int32)), (.int (0 : Int32))] (.int (0 : Int32)) := Arv.set Ar58 q58 Sz58 Nn58 H58 G58 rfl W59 7 rfl (Nat.le_of_ble_eq_true rfl)
    obtain ⟨cl60, Ar60, q60, Sz60, Nn60, H60, G60⟩ := id v59
    have hin60 : ¬ ((8 : Int32) < 0 ∨ cl60.slots.size ≤ ((8 : Int32)).toNatClampNeg) := inb_of Sz60 ⟨by decide, by decide⟩
    obtain ⟨T61, h61, X61, e61, W61, st61⟩ := stC X59 hx hZ0 e59 Ar60 (j := (8 : Int32)) hin60 (g := (mkF m 99 #[.val (.int p1), .val (.int (1 : Int32)), .val (.ref a_RULE_1014_8_0_114), .val (.ref a_RULE_1016_0_12), .unset, .unset, .unset] [(.int (46 : Int32)), (.int (8 : Int32)), (.ref b43), (.ref b43), (.ref b40), (.ref b40)])) rfl rfl (hb hby at_99)
    have W61 : Wr h59 h61 b43 ((8 : Int32)).toNatClampNeg (.int (46 : Int32)) := W61
    have z61 := W61.size
    have N61 := Fr.snoc X61 N59 (by omega)
    have O61 := O59.wr W61 (by omega)
    have v61 : Arv Z h61 b43 k43 .char (12 : Int32) [(.int (49 : Int32)), (.int (48 : Int32)), (.int (49 : Int32)), (.int (52 : Int32)), (.int (46 : Int32)), (.int (56 : Int32)), (.int (45 : Int32)), (.int (48 : Int32)), (.int (46 : Int32)), (.int (0 : Int32)), (.int (0 : Int32)), (.int (0 : Int32))] (.int (0 : Int32)) := Arv.set Ar60 q60 Sz60 Nn60 H60 G60 rfl W61 8 rfl (Nat.le_of_ble_eq_true rfl)
    obtain ⟨cl62, Ar62, q62, Sz62, Nn62, H62, G62⟩ := id v61
    have hin62 : ¬ ((9 : Int32) < 0 ∨ cl62.slots.size ≤ ((9 : Int32)).toNatClampNeg) := inb_of Sz62 ⟨by decide, by decide⟩
    obtain ⟨T63, h63, X63, e63, W63, st63⟩ := stC X61 hx hZ0 e61 Ar62 (j := (9 : Int32)) hin62 (g := (mkF m 105 #[.val (.int p1), .val (.int (1 : Int32)), .val (.ref a_RULE_1014_8_0_114), .val (.ref a_RULE_1016_0_12), .unset, .unset, .unset] [(.int (49 : Int32)), (.int (9 : Int32)), (.ref b43), (.ref b43), (.ref b40), (.ref b40)])) rfl rfl (hb hby at_105)
    have W63 : Wr h61 h63 b43 ((9 : Int32)).toNatClampNeg (.int (49 : Int32)) := W63
    have z63 := W63.size
    have N63 := Fr.snoc X63 N61 (by omega)
    have O63 := O61.wr W63 (by omega)
    have v63 : Arv Z h63 b43 k43 .char (12 : Int32) [(.int (49 : Int32)), (.int (48 : Int32)), (.int (49 : Int32)), (.int (52 : Int32)), (.int (46 : Int32)), (.int (56 : Int32)), (.int (45 : Int32)), (.int (48 : Int32)), (.int (46 : Int32)), (.int (49 : Int32)), (.int (0 : Int32)), (.int (0 : Int32))] (.int (0 : Int32)) := Arv.set Ar62 q62 Sz62 Nn62 H62 G62 rfl W63 9 rfl (Nat.le_of_ble_eq_true rfl)
    obtain ⟨cl64, Ar64, q64, Sz64, Nn64, H64, G64⟩ := id v63
    have hin64 : ¬ ((10 : Int32) < 0 ∨ cl64.slots.size ≤ ((10 : Int32)).toNatClampNeg) := inb_of Sz64 ⟨by decide, by decide⟩
    obtain ⟨T65, h65, X65, e65, W65, st65⟩ := stC X63 hx hZ0 e63 Ar64 (j := (10 : Int32)) hin64 (g := (mkF m 111 #[.val (.int p1), .val (.int (1 : Int32)), .val (.ref a_RULE_1014_8_0_114), .val (.ref a_RULE_1016_0_12), .unset, .unset, .unset] [(.int (49 : Int32)), (.int (10 : Int32)), (.ref b43), (.ref b43), (.ref b40), (.ref b40)])) rfl rfl (hb hby at_111)
    have W65 : Wr h63 h65 b43 ((10 : Int32)).toNatClampNeg (.int (49 : Int32)) := W65
    have z65 := W65.size
    have N65 := Fr.snoc X65 N63 (by omega)
    have O65 := O63.wr W65 (by omega)
    have v65 : Arv Z h65 b43 k43 .char (12 : Int32) [(.int (49 : Int32)), (.int (48 : Int32)), (.int (49 : Int32)), (.int (52 : Int32)), (.int (46 : Int32)), (.int (56 : Int32)), (.int (45 : Int32)), (.int (48 : Int32)), (.int (46 : Int32)), (.int (49 : Int32)), (.int (49 : Int32)), (.int (0 : Int32))] (.int (0 : Int32)) := Arv.set Ar64 q64 Sz64 Nn64 H64 G64 rfl W65 10 rfl (Nat.le_of_ble_eq_true rfl)
    obtain ⟨cl66, Ar66, q66, Sz66, Nn66, H66, G66⟩ := id v65
    have hin66 : ¬ ((11 : Int32) < 0 ∨ cl66.slots.size ≤ ((11 : Int32)).toNatClampNeg) := inb_of Sz66 ⟨by decide, by decide⟩
    obtain ⟨T67, h67, X67, e67, W67, st67⟩ := stC X65 hx hZ0 e65 Ar66 (j := (11 : Int32)) hin66 (g := (mkF m 117 #[.val (.int p1), .val (.int (1 : Int32)), .val (.ref a_RULE_1014_8_0_114), .val (.ref a_RULE_1016_0_12), .unset, .unset, .unset] [(.int (52 : Int32)), (.int (11 : Int32)), (.ref b43), (.ref b43), (.ref b40), (.ref b40)])) rfl rfl (hb hby at_117)
    have W67 : Wr h65 h67 b43 ((11 : Int32)).toNatClampNeg (.int (52 : Int32)) := W67
    have z67 := W67.size
    have N67 := Fr.snoc X67 N65 (by omega)
    have O67 := O65.wr W67 (by omega)
    have v67 : Arv Z h67 b43 k43 .char (12 : Int32) [(.int (49 : Int32)), (.int (48 : Int32)), (.int (49 : Int32)), (.int (52 : Int32)), (.int (46 : Int32)), (.int (56 : Int32)), (.int (45 : Int32)), (.int (48 : Int32)), (.int (46 : Int32)), (.int (49 : Int32)), (.int (49 : Int32)), (.int (52 : Int32))] (.int (0 : Int32)) := Arv.set Ar66 q66 Sz66 Nn66 H66 G66 rfl W67 11 rfl (Nat.le_of_ble_eq_true rfl)
    have hp68 : ∀ c ∈ ([(49 : Int32), (48 : Int32), (49 : Int32), (52 : Int32), (46 : Int32), (56 : Int32), (45 : Int32), (48 : Int32), (46 : Int32), (49 : Int32), (49 : Int32), (52 : Int32)] : List Int32), ¬ c < 0 ∧ ¬ (255 : Int32) < c := by
      intro c hc
      simp only [List.mem_cons, List.not_mem_nil, or_false] at hc
      rcases hc with rfl | rfl | rfl | rfl | rfl | rfl | rfl | rfl | rfl | rfl | rfl | rfl
      · decide
      · decide
      · decide
      · decide
      · decide
      · decide
      · decide
      · decide
      · decide
      · decide
      · decide
      · decide
    have f69 := (((((((((((((A40.ext E43).wr W45).wr W47).wr W49).wr W51).wr W53).wr W55).wr W57).wr W59).wr W61).wr W63).wr W65).wr W67)
    have f70 := (((((((((((((f42.ext E43).other W45 (Or.inl (by omega : (b40 : Nat) ≠ (b43 : Nat)))).other W47 (Or.inl (by omega : (b40 : Nat) ≠ (b43 : Nat)))).other W49 (Or.inl (by omega : (b40 : Nat) ≠ (b43 : Nat)))).other W51 (Or.inl (by omega : (b40 : Nat) ≠ (b43 : Nat)))).other W53 (Or.inl (by omega : (b40 : Nat) ≠ (b43 : Nat)))).other W55 (Or.inl (by omega : (b40 : Nat) ≠ (b43 : Nat)))).other W57 (Or.inl (by omega : (b40 : Nat) ≠ (b43 : Nat)))).other W59 (Or.inl (by omega : (b40 : Nat) ≠ (b43 : Nat)))).other W61 (Or.inl (by omega : (b40 : Nat) ≠ (b43 : Nat)))).other W63 (Or.inl (by omega : (b40 : Nat) ≠ (b43 : Nat)))).other W65 (Or.inl (by omega : (b40 : Nat) ≠ (b43 : Nat)))).other W67 (Or.inl (by omega : (b40 : Nat) ≠ (b43 : Nat))))
    have f71 := (((((((((((((f41.ext E43).other W45 (Or.inl (by omega : (b40 : Nat) ≠ (b43 : Nat)))).other W47 (Or.inl (by omega : (b40 : Nat) ≠ (b43 : Nat)))).other W49 (Or.inl (by omega : (b40 : Nat) ≠ (b43 : Nat)))).other W51 (Or.inl (by omega : (b40 : Nat) ≠ (b43 : Nat)))).other W53 (Or.inl (by omega : (b40 : Nat) ≠ (b43 : Nat)))).other W55 (Or.inl (by omega : (b40 : Nat) ≠ (b43 : Nat)))).other W57 (Or.inl (by omega : (b40 : Nat) ≠ (b43 : Nat)))).other W59 (Or.inl (by omega : (b40 : Nat) ≠ (b43 : Nat)))).other W61 (Or.inl (by omega : (b40 : Nat) ≠ (b43 : Nat)))).other W63 (Or.inl (by omega : (b40 : Nat) ≠ (b43 : Nat)))).other W65 (Or.inl (by omega : (b40 : Nat) ≠ (b43 : Nat)))).other W67 (Or.inl (by omega : (b40 : Nat) ≠ (b43 : Nat))))
    obtain ⟨_, _, ⟨T72, L72, k72, n72⟩, -, X72, ⟨Lc72, hQ72, l72, y72, z72⟩, st72⟩ := X67.specialBack hx (y := (⟨"java/lang/String", "<init>", "([C)V"⟩ : MethodName)) rfl hown0 (mvT hZ0 (tw9 hw)) (mvT hZ0 (tw10 hw)) (mvT hZ0 (tw11 hw)) (by decide) (StrChars.Road.backV (W := 1) hZ0 (own_hws hw) (kI := 4) (tw6 hw) (cs := ([(49 : Int32), (48 : Int32), (49 : Int32), (52 : Int32), (46 : Int32), (56 : Int32), (45 : Int32), (48 : Int32), (46 : Int32), (49 : Int32), (49 : Int32), (52 : Int32)] : List Int32)) (bs := ([(49 : Int32), (48 : Int32), (49 : Int32), (52 : Int32), (46 : Int32), (56 : Int32), (45 : Int32), (48 : Int32), (46 : Int32), (49 : Int32), (49 : Int32), (52 : Int32)] : List Int32).map (fun c => c.toInt8.toInt32)) (n := 12) (n0 := n0) (x := b40) (by omega) (by omega) f69 f70 f71 v67 (Scz.ext O67.2) hcz rfl rfl (by decide) (by decide) hp68 rfl (by decide) (by decide)) (g := (mkF m 118 #[.val (.int p1), .val (.int (1 : Int32)), .val (.ref a_RULE_1014_8_0_114), .val (.ref a_RULE_1016_0_12), .unset, .unset, .unset] [(.ref b43), (.ref b40), (.ref b40)])) rfl (by rw [hml]; rfl) (Steps.refl _) (a := b40) (argsL := [(.ref b43)]) (rest := [(.ref b40)]) (lenOf pd3 rfl) rfl (by show 2 * 0 + _ ≤ _; exact Nat.le_of_eq rfl) (hb hby at_118) (fun _ _ => ⟨rfl, e67, (by decide : 2 + 1 ≤ _), (by decide : 16 + 12 ≤ _)⟩)
    dsimp only [Pt.U, Pt.locs, Pt.cells, Pt.slots] at X72 l72 y72 z72 st72 hQ72
    subst l72 y72 z72
    obtain ⟨rfl, N72q, Kq72, Ea72, Ec72, t72, kb72, ga72, gb72, gc72, Ev72, Et72⟩ := hQ72
    have N72 := Fr.app N67 N72q
    have z72 := Kq72.1
    have O72 := O67.keep Kq72 (allS (by omega) all0)
    have lq72 : (b40 : Nat) < (T72.heap.size : Nat) := Ea72.lt
    have lr72 : (t72 : Nat) < (T72.heap.size : Nat) := Et72.lt
    have gd72 : (h67.size : Nat) ≤ (t72 : Nat) := gb72
    have hcd73 : StrChars.Road.CodA ([(49 : Int32), (48 : Int32), (49 : Int32), (52 : Int32), (46 : Int32), (56 : Int32), (45 : Int32), (48 : Int32), (46 : Int32), (49 : Int32), (49 : Int32), (52 : Int32)] : List Int32) 0 (12 : Int32) ((([(49 : Int32), (48 : Int32), (49 : Int32), (52 : Int32), (46 : Int32), (56 : Int32), (45 : Int32), (48 : Int32), (46 : Int32), (49 : Int32), (49 : Int32), (52 : Int32)] : List Int32).map (fun c => c.toInt8.toInt32)).map Value.int) := StrChars.Road.codOf (n := 12) rfl (fun c hc => (hp68 c hc).2)
    have hbd73 : ∀ c ∈ ([(49 : Int32), (48 : Int32), (49 : Int32), (52 : Int32), (46 : Int32), (56 : Int32), (45 : Int32), (48 : Int32), (46 : Int32), (49 : Int32), (49 : Int32), (52 : Int32)] : List Int32), ¬ c < 0 ∧ ¬ (65535 : Int32) < c := own_up (cs := ([(49 : Int32), (48 : Int32), (49 : Int32), (52 : Int32), (46 : Int32), (56 : Int32), (45 : Int32), (48 : Int32), (46 : Int32), (49 : Int32), (49 : Int32), (52 : Int32)] : List Int32)) hp68
    obtain ⟨_, _, ⟨T74, L74, k74, n74⟩, -, Y74, hs74, hg74, ⟨Lc74, hQ74, l74, y74, z74⟩, st74⟩ := Jvm.RoadKit.callSS X72 hx (y := (⟨"com/example/kwhconv/kwhconv/PressureRule", "of", "(Ljava/lang/String;)Lcom/example/kwhconv/kwhconv/PressureRule;"⟩ : MethodName)) hown0 (mvT hZ0 (tw35 hw)) (mvT hZ0 (tw36 hw)) (mvT hZ0 (tw1 hw)) (mvT hZ0 (tw37 hw)) (by decide) (backOfS (W := 0) (rm_ofB l Z a0 hw [] b40 t72 kb72 ((([(49 : Int32), (48 : Int32), (49 : Int32), (52 : Int32), (46 : Int32), (56 : Int32), (45 : Int32), (48 : Int32), (46 : Int32), (49 : Int32), (49 : Int32), (52 : Int32)] : List Int32).map (fun c => c.toInt8.toInt32)).map Value.int) a_RULE_1016_0_12 a_RULE_1014_8_0_114 a__VALUES a_RULE_1016_0_12_text a_RULE_1016_0_12_text_value a_RULE_1014_8_0_114_text a_RULE_1014_8_0_114_text_value k_a__VALUES k_a_RULE_1016_0_12_text_value k_a_RULE_1014_8_0_114_text_value cz T72.heap n0 (by omega) O72 Ea72 Ev72 Ec72 Et72 hcd73 S_RULE_1016_0_12 E_a_RULE_1016_0_12 S_RULE_1014_8_0_114 E_a_RULE_1014_8_0_114 S__VALUES E_a__VALUES F_a_RULE_1016_0_12_text E_a_RULE_1016_0_12_text F_a_RULE_1016_0_12_text_coder F_a_RULE_1016_0_12_text_value F_a_RULE_1016_0_12_ordinal F_a_RULE_1014_8_0_114_ordinal F_a_RULE_1014_8_0_114_text E_a_RULE_1014_8_0_114_text F_a_RULE_1014_8_0_114_text_coder F_a_RULE_1014_8_0_114_text_value A_a__VALUES A_a_RULE_1016_0_12_text_value A_a_RULE_1014_8_0_114_text_value Scz hcz) hZ0 (tw37 hw) (tw1 hw) (by decide) (by decide)) (g := (mkF m 187 #[.val (.int p1), .val (.int (1 : Int32)), .val (.ref a_RULE_1014_8_0_114), .val (.ref a_RULE_1016_0_12), .val (.ref b40), .unset, .unset] [(.ref b40)])) rfl (by rw [hml]; rfl) (argsL := [(.ref b40)]) (rest := []) (lenOf pd4 rfl) rfl (by show 2 * 0 + _ ≤ _; exact Nat.le_of_eq rfl) (hb hby at_187) (fun _ _ => ⟨rfl, rfl, (by decide : 3 + 3 ≤ _), (by decide : 28 + 58 ≤ _)⟩)
    dsimp only [Pt.U, Pt.locs, Pt.cells, Pt.slots] at Y74 hs74 hg74 l74 y74 z74 st74 hQ74
    subst l74 y74 z74
    obtain ⟨X74, hS74, hZ74, hown74⟩ := rebS hS0 (n1 := T72.heap.size) (by omega) Y74 hs74 hg74 hZ0 hown0
    obtain ⟨rfl, N74q, Kq74⟩ := hQ74
    have N74 := Fr.app N72 N74q
    have z74 := Kq74.1
    have O74 := O72.keep Kq74 all0
    obtain ⟨cq75, kq75, q75a, q75b, q75c⟩ := isOf hZ74 rfl (E_a_RULE_1014_8_0_114.ext O74.2)
    obtain ⟨_, _, ⟨T75, L75, k75, n75⟩, -, X75, ⟨Lc75, hQ75, l75, y75, z75⟩, st75⟩ := X74.virtualBack hx (y := (⟨"com/example/kwhconv/kwhconv/PressureRule", "toString", "()Ljava/lang/String;"⟩ : MethodName)) (z := (⟨"com/example/kwhconv/kwhconv/PressureRule", "toString", "()Ljava/lang/String;"⟩ : MethodName)) hown74 (mvT hZ74 (tw72 hw)) (mvT hZ74 (tw73 hw)) (notFace_of_selects (args := #[]) (mvT hZ74 (tw75 hw))) (mvT hZ74 (tw75 hw)) (mvT hZ74 (tw74 hw)) (by decide) (backOf (W := 0) (rm_tos l Z a0 hw [] a_RULE_1014_8_0_114 a_RULE_1014_8_0_114_text T74.heap n0 (by omega) O74 (F_a_RULE_1014_8_0_114_text.ext O74.2)) hZ74 (tw76 hw) (tw1 hw) (by decide) (by decide)) q75a q75c (g := (mkF m 193 #[.val (.int p1), .val (.int (1 : Int32)), .val (.ref a_RULE_1014_8_0_114), .val (.ref a_RULE_1016_0_12), .val (.ref b40), .val (.ref a_RULE_1014_8_0_114), .unset] [(.ref a_RULE_1014_8_0_114)])) rfl (by rw [hml]; rfl) (Steps.refl _) (argsL := []) (rest := []) (lenOf pd5 rfl) rfl (by show 2 * 0 + _ ≤ _; exact Nat.le_of_eq rfl) (hb hby at_193) (fun _ _ => ⟨rfl, rfl, (by decide : 6 + 0 ≤ _), (by decide : 86 + 0 ≤ _)⟩)
    dsimp only [Pt.U, Pt.locs, Pt.cells, Pt.slots] at X75 l75 y75 z75 st75 hQ75
    subst l75 y75 z75
    obtain ⟨rfl, N75q, Kq75⟩ := hQ75
    have N75 := Fr.app N74 N75q
    have hp76 : ∀ c ∈ ([(49 : Int32), (48 : Int32), (49 : Int32), (52 : Int32), (46 : Int32), (56 : Int32), (45 : Int32), (48 : Int32), (46 : Int32), (49 : Int32), (49 : Int32), (52 : Int32)] : List Int32), ¬ c < 0 ∧ ¬ (255 : Int32) < c := (by decide)
    have hcd76 : StrChars.Road.CodA ([(49 : Int32), (48 : Int32), (49 : Int32), (52 : Int32), (46 : Int32), (56 : Int32), (45 : Int32), (48 : Int32), (46 : Int32), (49 : Int32), (49 : Int32), (52 : Int32)] : List Int32) 0 (12 : Int32) [(.int (49 : Int32)), (.int (48 : Int32)), (.int (49 : Int32)), (.int (52 : Int32)), (.int (46 : Int32)), (.int (56 : Int32)), (.int (45 : Int32)), (.int (48 : Int32)), (.int (46 : Int32)), (.int (49 : Int32)), (.int (49 : Int32)), (.int (52 : Int32))] := own_cod12
    have hbd76 : ∀ c ∈ ([(49 : Int32), (48 : Int32), (49 : Int32), (52 : Int32), (46 : Int32), (56 : Int32), (45 : Int32), (48 : Int32), (46 : Int32), (49 : Int32), (49 : Int32), (52 : Int32)] : List Int32), ¬ c < 0 ∧ ¬ (65535 : Int32) < c := own_up (cs := ([(49 : Int32), (48 : Int32), (49 : Int32), (52 : Int32), (46 : Int32), (56 : Int32), (45 : Int32), (48 : Int32), (46 : Int32), (49 : Int32), (49 : Int32), (52 : Int32)] : List Int32)) hp76
    obtain ⟨_, _, ⟨T77, L77, k77, n77⟩, -, Y77, hs77, hg77, ⟨Lc77, hQ77, l77, y77, z77⟩, st77⟩ := Jvm.RoadKit.callSS X75 hx (y := (⟨"com/example/kwhconv/kwhconv/PressureRule", "of", "(Ljava/lang/String;)Lcom/example/kwhconv/kwhconv/PressureRule;"⟩ : MethodName)) hown74 (mvT hZ74 (tw35 hw)) (mvT hZ74 (tw36 hw)) (mvT hZ74 (tw1 hw)) (mvT hZ74 (tw37 hw)) (by decide) (backOfS (W := 0) (rm_ofB l Z a0 hw [] a_RULE_1014_8_0_114_text a_RULE_1014_8_0_114_text_value k_a_RULE_1014_8_0_114_text_value [(.int (49 : Int32)), (.int (48 : Int32)), (.int (49 : Int32)), (.int (52 : Int32)), (.int (46 : Int32)), (.int (56 : Int32)), (.int (45 : Int32)), (.int (48 : Int32)), (.int (46 : Int32)), (.int (49 : Int32)), (.int (49 : Int32)), (.int (52 : Int32))] a_RULE_1016_0_12 a_RULE_1014_8_0_114 a__VALUES a_RULE_1016_0_12_text a_RULE_1016_0_12_text_value a_RULE_1014_8_0_114_text a_RULE_1014_8_0_114_text_value k_a__VALUES k_a_RULE_1016_0_12_text_value k_a_RULE_1014_8_0_114_text_value cz T74.heap n0 (by omega) O74 (E_a_RULE_1014_8_0_114_text.ext O74.2) (F_a_RULE_1014_8_0_114_text_value.ext O74.2) (F_a_RULE_1014_8_0_114_text_coder.ext O74.2) (A_a_RULE_1014_8_0_114_text_value.ext O74.2) hcd76 S_RULE_1016_0_12 E_a_RULE_1016_0_12 S_RULE_1014_8_0_114 E_a_RULE_1014_8_0_114 S__VALUES E_a__VALUES F_a_RULE_1016_0_12_text E_a_RULE_1016_0_12_text F_a_RULE_1016_0_12_text_coder F_a_RULE_1016_0_12_text_value F_a_RULE_1016_0_12_ordinal F_a_RULE_1014_8_0_114_ordinal F_a_RULE_1014_8_0_114_text E_a_RULE_1014_8_0_114_text F_a_RULE_1014_8_0_114_text_coder F_a_RULE_1014_8_0_114_text_value A_a__VALUES A_a_RULE_1016_0_12_text_value A_a_RULE_1014_8_0_114_text_value Scz hcz) hZ74 (tw37 hw) (tw1 hw) (by decide) (by decide)) (g := (mkF m 196 #[.val (.int p1), .val (.int (1 : Int32)), .val (.ref a_RULE_1014_8_0_114), .val (.ref a_RULE_1016_0_12), .val (.ref b40), .val (.ref a_RULE_1014_8_0_114), .unset] [(.ref a_RULE_1014_8_0_114_text)])) rfl (by rw [hml]; rfl) (argsL := [(.ref a_RULE_1014_8_0_114_text)]) (rest := []) (lenOf pd4 rfl) rfl (by show 2 * 0 + _ ≤ _; exact Nat.le_of_eq rfl) (hb hby at_196) (fun _ _ => ⟨rfl, Kq75, (by decide : 6 + 3 ≤ _), (by decide : 86 + 58 ≤ _)⟩)
    dsimp only [Pt.U, Pt.locs, Pt.cells, Pt.slots] at Y77 hs77 hg77 l77 y77 z77 st77 hQ77
    subst l77 y77 z77
    obtain ⟨X77, hS77, hZ77, hown77⟩ := rebS hS74 (n1 := T75.heap.size) (by rw [Kq75]; omega) Y77 hs77 hg77 hZ74 hown74
    obtain ⟨rfl, N77q, Kq77⟩ := hQ77
    have N77 := Fr.app N75 N77q
    have z77 := Kq77.1
    have O77 := O74.keep Kq77 all0
    have S78 : ∀ t_, Steps p.tables e below (T77.setTop (mkF m 224 #[.val (.int p1), .val (.int (1 : Int32)), .val (.ref a_RULE_1014_8_0_114), .val (.ref a_RULE_1016_0_12), .val (.ref b40), .val (.ref a_RULE_1014_8_0_114), .val (.ref a_RULE_1014_8_0_114)] [(.int (1 : Int32))])) t_ → Steps p.tables e below (s₁.setTop (entryFrame m #[(.int p1)] maxLocals)) t_ := by
      intro t_ k_
      refine S1 t_ ?_
      show Steps p.tables e below (s₁.setTop (mkF m 3 #[.val (.int p1), .unset, .unset, .unset, .unset, .unset, .unset] [(.int (p1 &&& (1 : Int32)))])) _
      refine XS.ifNo X0.here hx rfl (hb hby at_3) rfl ((if0 _ _).trans (feq c2).1) ?_
      show Steps p.tables e below (s₁.setTop (mkF m 6 #[.val (.int p1), .unset, .unset, .unset, .unset, .unset, .unset] [])) _
      refine XT.iconstV X0.here hx rfl (1 : Int32) (hb hby at_6) (by decide) ?_
      show Steps p.tables e below (s₁.setTop (mkF m 7 #[.val (.int p1), .unset, .unset, .unset, .unset, .unset, .unset] [(.int (1 : Int32))])) _
      refine XS.goto X0.here hx rfl (pc0 := 7) (pc' := 11) rfl (hb hby at_7) (by decide) (by decide) ?_
      show Steps p.tables e below (s₁.setTop (mkF m 11 #[.val (.int p1), .unset, .unset, .unset, .unset, .unset, .unset] [(.int (1 : Int32))])) _
      refine XS.istoreN X0.here hx rfl (hb hby at_11) rfl (l' := #[.val (.int p1), .val (.int (1 : Int32)), .unset, .unset, .unset, .unset, .unset]) rfl ?_
      show Steps p.tables e below (s₁.setTop (mkF m 12 #[.val (.int p1), .val (.int (1 : Int32)), .unset, .unset, .unset, .unset, .unset] [])) _
      refine XS.iloadN X0.here hx rfl (hb hby at_12) rfl ?_
      show Steps p.tables e below (s₁.setTop (mkF m 13 #[.val (.int p1), .val (.int (1 : Int32)), .unset, .unset, .unset, .unset, .unset] [(.int (1 : Int32))])) _
      refine XS.ifNo X0.here hx rfl (hb hby at_13) rfl (by decide) ?_
      show Steps p.tables e below (s₁.setTop (mkF m 16 #[.val (.int p1), .val (.int (1 : Int32)), .unset, .unset, .unset, .unset, .unset] [])) _
      refine st38 _ ?_
      show Steps p.tables e below (T38.setTop (mkF m 19 #[.val (.int p1), .val (.int (1 : Int32)), .unset, .unset, .unset, .unset, .unset] [(.ref a_RULE_1014_8_0_114)])) _
      refine XS.goto X38.here hx rfl (pc0 := 19) (pc' := 25) rfl (hb hby at_19) (by decide) (by decide) ?_
      show Steps p.tables e below (T38.setTop (mkF m 25 #[.val (.int p1), .val (.int (1 : Int32)), .unset, .unset, .unset, .unset, .unset] [(.ref a_RULE_1014_8_0_114)])) _
      refine XS.astoreN X38.here hx rfl (hb hby at_25) rfl rfl (l' := #[.val (.int p1), .val (.int (1 : Int32)), .val (.ref a_RULE_1014_8_0_114), .unset, .unset, .unset, .unset]) rfl ?_
      show Steps p.tables e below (T38.setTop (mkF m 26 #[.val (.int p1), .val (.int (1 : Int32)), .val (.ref a_RULE_1014_8_0_114), .unset, .unset, .unset, .unset] [])) _
      refine XS.iloadN X38.here hx rfl (hb hby at_26) rfl ?_
      show Steps p.tables e below (T38.setTop (mkF m 27 #[.val (.int p1), .val (.int (1 : Int32)), .val (.ref a_RULE_1014_8_0_114), .unset, .unset, .unset, .unset] [(.int (1 : Int32))])) _
      refine XS.ifNo X38.here hx rfl (hb hby at_27) rfl (by decide) ?_
      show Steps p.tables e below (T38.setTop (mkF m 30 #[.val (.int p1), .val (.int (1 : Int32)), .val (.ref a_RULE_1014_8_0_114), .unset, .unset, .unset, .unset] [])) _
      refine st39 _ ?_
      show Steps p.tables e below (T39.setTop (mkF m 33 #[.val (.int p1), .val (.int (1 : Int32)), .val (.ref a_RULE_1014_8_0_114), .unset, .unset, .unset, .unset] [(.ref a_RULE_1016_0_12)])) _
      refine XS.goto X39.here hx rfl (pc0 := 33) (pc' := 39) rfl (hb hby at_33) (by decide) (by decide) ?_
      show Steps p.tables e below (T39.setTop (mkF m 39 #[.val (.int p1), .val (.int (1 : Int32)), .val (.ref a_RULE_1014_8_0_114), .unset, .unset, .unset, .unset] [(.ref a_RULE_1016_0_12)])) _
      refine XS.astoreN X39.here hx rfl (hb hby at_39) rfl rfl (l' := #[.val (.int p1), .val (.int (1 : Int32)), .val (.ref a_RULE_1014_8_0_114), .val (.ref a_RULE_1016_0_12), .unset, .unset, .unset]) rfl ?_
      show Steps p.tables e below (T39.setTop (mkF m 40 #[.val (.int p1), .val (.int (1 : Int32)), .val (.ref a_RULE_1014_8_0_114), .val (.ref a_RULE_1016_0_12), .unset, .unset, .unset] [])) _
      refine XS.iloadN X39.here hx rfl (hb hby at_40) rfl ?_
      show Steps p.tables e below (T39.setTop (mkF m 41 #[.val (.int p1), .val (.int (1 : Int32)), .val (.ref a_RULE_1014_8_0_114), .val (.ref a_RULE_1016_0_12), .unset, .unset, .unset] [(.int (1 : Int32))])) _
      refine XS.ifNo X39.here hx rfl (hb hby at_41) rfl (by decide) ?_
      show Steps p.tables e below (T39.setTop (mkF m 44 #[.val (.int p1), .val (.int (1 : Int32)), .val (.ref a_RULE_1014_8_0_114), .val (.ref a_RULE_1016_0_12), .unset, .unset, .unset] [])) _
      refine st40 _ ?_
      show Steps p.tables e below (T40.setTop (mkF m 47 #[.val (.int p1), .val (.int (1 : Int32)), .val (.ref a_RULE_1014_8_0_114), .val (.ref a_RULE_1016_0_12), .unset, .unset, .unset] [(.ref b40)])) _
      refine XS.dup X40.here hx rfl (hb hby at_47) rfl rfl ?_
      show Steps p.tables e below (T40.setTop (mkF m 48 #[.val (.int p1), .val (.int (1 : Int32)), .val (.ref a_RULE_1014_8_0_114), .val (.ref a_RULE_1016_0_12), .unset, .unset, .unset] [(.ref b40), (.ref b40)])) _
      refine XT.bipushV X40.here hx rfl (12 : Int32) (hb hby at_48) (by decide) ?_
      show Steps p.tables e below (T40.setTop (mkF m 50 #[.val (.int p1), .val (.int (1 : Int32)), .val (.ref a_RULE_1014_8_0_114), .val (.ref a_RULE_1016_0_12), .unset, .unset, .unset] [(.int (12 : Int32)), (.ref b40), (.ref b40)])) _
      refine st43 _ ?_
      show Steps p.tables e below (T43.setTop (mkF m 52 #[.val (.int p1), .val (.int (1 : Int32)), .val (.ref a_RULE_1014_8_0_114), .val (.ref a_RULE_1016_0_12), .unset, .unset, .unset] [(.ref b43), (.ref b40), (.ref b40)])) _
      refine XS.dup X43.here hx rfl (hb hby at_52) rfl rfl ?_
      show Steps p.tables e below (T43.setTop (mkF m 53 #[.val (.int p1), .val (.int (1 : Int32)), .val (.ref a_RULE_1014_8_0_114), .val (.ref a_RULE_1016_0_12), .unset, .unset, .unset] [(.ref b43), (.ref b43), (.ref b40), (.ref b40)])) _
      refine XT.iconstV X43.here hx rfl (0 : Int32) (hb hby at_53) (by decide) ?_
      show Steps p.tables e below (T43.setTop (mkF m 54 #[.val (.int p1), .val (.int (1 : Int32)), .val (.ref a_RULE_1014_8_0_114), .val (.ref a_RULE_1016_0_12), .unset, .unset, .unset] [(.int (0 : Int32)), (.ref b43), (.ref b43), (.ref b40), (.ref b40)])) _
      refine XT.bipushV X43.here hx rfl (49 : Int32) (hb hby at_54) (by decide) ?_
      show Steps p.tables e below (T43.setTop (mkF m 56 #[.val (.int p1), .val (.int (1 : Int32)), .val (.ref a_RULE_1014_8_0_114), .val (.ref a_RULE_1016_0_12), .unset, .unset, .unset] [(.int (49 : Int32)), (.int (0 : Int32)), (.ref b43), (.ref b43), (.ref b40), (.ref b40)])) _
      refine st45 _ ?_
      show Steps p.tables e below (T45.setTop (mkF m 57 #[.val (.int p1), .val (.int (1 : Int32)), .val (.ref a_RULE_1014_8_0_114), .val (.ref a_RULE_1016_0_12), .unset, .unset, .unset] [(.ref b43), (.ref b40), (.ref b40)])) _
      refine XS.dup X45.here hx rfl (hb hby at_57) rfl rfl ?_
      show Steps p.tables e below (T45.setTop (mkF m 58 #[.val (.int p1), .val (.int (1 : Int32)), .val (.ref a_RULE_1014_8_0_114), .val (.ref a_RULE_1016_0_12), .unset, .unset, .unset] [(.ref b43), (.ref b43), (.ref b40), (.ref b40)])) _
      refine XT.iconstV X45.here hx rfl (1 : Int32) (hb hby at_58) (by decide) ?_
      show Steps p.tables e below (T45.setTop (mkF m 59 #[.val (.int p1), .val (.int (1 : Int32)), .val (.ref a_RULE_1014_8_0_114), .val (.ref a_RULE_1016_0_12), .unset, .unset, .unset] [(.int (1 : Int32)), (.ref b43), (.ref b43), (.ref b40), (.ref b40)])) _
      refine XT.bipushV X45.here hx rfl (48 : Int32) (hb hby at_59) (by decide) ?_
      show Steps p.tables e below (T45.setTop (mkF m 61 #[.val (.int p1), .val (.int (1 : Int32)), .val (.ref a_RULE_1014_8_0_114), .val (.ref a_RULE_1016_0_12), .unset, .unset, .unset] [(.int (48 : Int32)), (.int (1 : Int32)), (.ref b43), (.ref b43), (.ref b40), (.ref b40)])) _
      refine st47 _ ?_
      show Steps p.tables e below (T47.setTop (mkF m 62 #[.val (.int p1), .val (.int (1 : Int32)), .val (.ref a_RULE_1014_8_0_114), .val (.ref a_RULE_1016_0_12), .unset, .unset, .unset] [(.ref b43), (.ref b40), (.ref b40)])) _
      refine XS.dup X47.here hx rfl (hb hby at_62) rfl rfl ?_
      show Steps p.tables e below (T47.setTop (mkF m 63 #[.val (.int p1), .val (.int (1 : Int32)), .val (.ref a_RULE_1014_8_0_114), .val (.ref a_RULE_1016_0_12), .unset, .unset, .unset] [(.ref b43), (.ref b43), (.ref b40), (.ref b40)])) _
      refine XT.iconstV X47.here hx rfl (2 : Int32) (hb hby at_63) (by decide) ?_
      show Steps p.tables e below (T47.setTop (mkF m 64 #[.val (.int p1), .val (.int (1 : Int32)), .val (.ref a_RULE_1014_8_0_114), .val (.ref a_RULE_1016_0_12), .unset, .unset, .unset] [(.int (2 : Int32)), (.ref b43), (.ref b43), (.ref b40), (.ref b40)])) _
      refine XT.bipushV X47.here hx rfl (49 : Int32) (hb hby at_64) (by decide) ?_
      show Steps p.tables e below (T47.setTop (mkF m 66 #[.val (.int p1), .val (.int (1 : Int32)), .val (.ref a_RULE_1014_8_0_114), .val (.ref a_RULE_1016_0_12), .unset, .unset, .unset] [(.int (49 : Int32)), (.int (2 : Int32)), (.ref b43), (.ref b43), (.ref b40), (.ref b40)])) _
      refine st49 _ ?_
      show Steps p.tables e below (T49.setTop (mkF m 67 #[.val (.int p1), .val (.int (1 : Int32)), .val (.ref a_RULE_1014_8_0_114), .val (.ref a_RULE_1016_0_12), .unset, .unset, .unset] [(.ref b43), (.ref b40), (.ref b40)])) _
      refine XS.dup X49.here hx rfl (hb hby at_67) rfl rfl ?_
      show Steps p.tables e below (T49.setTop (mkF m 68 #[.val (.int p1), .val (.int (1 : Int32)), .val (.ref a_RULE_1014_8_0_114), .val (.ref a_RULE_1016_0_12), .unset, .unset, .unset] [(.ref b43), (.ref b43), (.ref b40), (.ref b40)])) _
      refine XT.iconstV X49.here hx rfl (3 : Int32) (hb hby at_68) (by decide) ?_
      show Steps p.tables e below (T49.setTop (mkF m 69 #[.val (.int p1), .val (.int (1 : Int32)), .val (.ref a_RULE_1014_8_0_114), .val (.ref a_RULE_1016_0_12), .unset, .unset, .unset] [(.int (3 : Int32)), (.ref b43), (.ref b43), (.ref b40), (.ref b40)])) _
      refine XT.bipushV X49.here hx rfl (52 : Int32) (hb hby at_69) (by decide) ?_
      show Steps p.tables e below (T49.setTop (mkF m 71 #[.val (.int p1), .val (.int (1 : Int32)), .val (.ref a_RULE_1014_8_0_114), .val (.ref a_RULE_1016_0_12), .unset, .unset, .unset] [(.int (52 : Int32)), (.int (3 : Int32)), (.ref b43), (.ref b43), (.ref b40), (.ref b40)])) _
      refine st51 _ ?_
      show Steps p.tables e below (T51.setTop (mkF m 72 #[.val (.int p1), .val (.int (1 : Int32)), .val (.ref a_RULE_1014_8_0_114), .val (.ref a_RULE_1016_0_12), .unset, .unset, .unset] [(.ref b43), (.ref b40), (.ref b40)])) _
      refine XS.dup X51.here hx rfl (hb hby at_72) rfl rfl ?_
      show Steps p.tables e below (T51.setTop (mkF m 73 #[.val (.int p1), .val (.int (1 : Int32)), .val (.ref a_RULE_1014_8_0_114), .val (.ref a_RULE_1016_0_12), .unset, .unset, .unset] [(.ref b43), (.ref b43), (.ref b40), (.ref b40)])) _
      refine XT.iconstV X51.here hx rfl (4 : Int32) (hb hby at_73) (by decide) ?_
      show Steps p.tables e below (T51.setTop (mkF m 74 #[.val (.int p1), .val (.int (1 : Int32)), .val (.ref a_RULE_1014_8_0_114), .val (.ref a_RULE_1016_0_12), .unset, .unset, .unset] [(.int (4 : Int32)), (.ref b43), (.ref b43), (.ref b40), (.ref b40)])) _
      refine XT.bipushV X51.here hx rfl (46 : Int32) (hb hby at_74) (by decide) ?_
      show Steps p.tables e below (T51.setTop (mkF m 76 #[.val (.int p1), .val (.int (1 : Int32)), .val (.ref a_RULE_1014_8_0_114), .val (.ref a_RULE_1016_0_12), .unset, .unset, .unset] [(.int (46 : Int32)), (.int (4 : Int32)), (.ref b43), (.ref b43), (.ref b40), (.ref b40)])) _
      refine st53 _ ?_
      show Steps p.tables e below (T53.setTop (mkF m 77 #[.val (.int p1), .val (.int (1 : Int32)), .val (.ref a_RULE_1014_8_0_114), .val (.ref a_RULE_1016_0_12), .unset, .unset, .unset] [(.ref b43), (.ref b40), (.ref b40)])) _
      refine XS.dup X53.here hx rfl (hb hby at_77) rfl rfl ?_
      show Steps p.tables e below (T53.setTop (mkF m 78 #[.val (.int p1), .val (.int (1 : Int32)), .val (.ref a_RULE_1014_8_0_114), .val (.ref a_RULE_1016_0_12), .unset, .unset, .unset] [(.ref b43), (.ref b43), (.ref b40), (.ref b40)])) _
      refine XT.iconstV X53.here hx rfl (5 : Int32) (hb hby at_78) (by decide) ?_
      show Steps p.tables e below (T53.setTop (mkF m 79 #[.val (.int p1), .val (.int (1 : Int32)), .val (.ref a_RULE_1014_8_0_114), .val (.ref a_RULE_1016_0_12), .unset, .unset, .unset] [(.int (5 : Int32)), (.ref b43), (.ref b43), (.ref b40), (.ref b40)])) _
      refine XT.bipushV X53.here hx rfl (56 : Int32) (hb hby at_79) (by decide) ?_
      show Steps p.tables e below (T53.setTop (mkF m 81 #[.val (.int p1), .val (.int (1 : Int32)), .val (.ref a_RULE_1014_8_0_114), .val (.ref a_RULE_1016_0_12), .unset, .unset, .unset] [(.int (56 : Int32)), (.int (5 : Int32)), (.ref b43), (.ref b43), (.ref b40), (.ref b40)])) _
      refine st55 _ ?_
      show Steps p.tables e below (T55.setTop (mkF m 82 #[.val (.int p1), .val (.int (1 : Int32)), .val (.ref a_RULE_1014_8_0_114), .val (.ref a_RULE_1016_0_12), .unset, .unset, .unset] [(.ref b43), (.ref b40), (.ref b40)])) _
      refine XS.dup X55.here hx rfl (hb hby at_82) rfl rfl ?_
      show Steps p.tables e below (T55.setTop (mkF m 83 #[.val (.int p1), .val (.int (1 : Int32)), .val (.ref a_RULE_1014_8_0_114), .val (.ref a_RULE_1016_0_12), .unset, .unset, .unset] [(.ref b43), (.ref b43), (.ref b40), (.ref b40)])) _
      refine XT.bipushV X55.here hx rfl (6 : Int32) (hb hby at_83) (by decide) ?_
      show Steps p.tables e below (T55.setTop (mkF m 85 #[.val (.int p1), .val (.int (1 : Int32)), .val (.ref a_RULE_1014_8_0_114), .val (.ref a_RULE_1016_0_12), .unset, .unset, .unset] [(.int (6 : Int32)), (.ref b43), (.ref b43), (.ref b40), (.ref b40)])) _
      refine XT.bipushV X55.here hx rfl (45 : Int32) (hb hby at_85) (by decide) ?_
      show Steps p.tables e below (T55.setTop (mkF m 87 #[.val (.int p1), .val (.int (1 : Int32)), .val (.ref a_RULE_1014_8_0_114), .val (.ref a_RULE_1016_0_12), .unset, .unset, .unset] [(.int (45 : Int32)), (.int (6 : Int32)), (.ref b43), (.ref b43), (.ref b40), (.ref b40)])) _
      refine st57 _ ?_
      show Steps p.tables e below (T57.setTop (mkF m 88 #[.val (.int p1), .val (.int (1 : Int32)), .val (.ref a_RULE_1014_8_0_114), .val (.ref a_RULE_1016_0_12), .unset, .unset, .unset] [(.ref b43), (.ref b40), (.ref b40)])) _
      refine XS.dup X57.here hx rfl (hb hby at_88) rfl rfl ?_
      show Steps p.tables e below (T57.setTop (mkF m 89 #[.val (.int p1), .val (.int (1 : Int32)), .val (.ref a_RULE_1014_8_0_114), .val (.ref a_RULE_1016_0_12), .unset, .unset, .unset] [(.ref b43), (.ref b43), (.ref b40), (.ref b40)])) _
      refine XT.bipushV X57.here hx rfl (7 : Int32) (hb hby at_89) (by decide) ?_
      show Steps p.tables e below (T57.setTop (mkF m 91 #[.val (.int p1), .val (.int (1 : Int32)), .val (.ref a_RULE_1014_8_0_114), .val (.ref a_RULE_1016_0_12), .unset, .unset, .unset] [(.int (7 : Int32)), (.ref b43), (.ref b43), (.ref b40), (.ref b40)])) _
      refine XT.bipushV X57.here hx rfl (48 : Int32) (hb hby at_91) (by decide) ?_
      show Steps p.tables e below (T57.setTop (mkF m 93 #[.val (.int p1), .val (.int (1 : Int32)), .val (.ref a_RULE_1014_8_0_114), .val (.ref a_RULE_1016_0_12), .unset, .unset, .unset] [(.int (48 : Int32)), (.int (7 : Int32)), (.ref b43), (.ref b43), (.ref b40), (.ref b40)])) _
      refine st59 _ ?_
      show Steps p.tables e below (T59.setTop (mkF m 94 #[.val (.int p1), .val (.int (1 : Int32)), .val (.ref a_RULE_1014_8_0_114), .val (.ref a_RULE_1016_0_12), .unset, .unset, .unset] [(.ref b43), (.ref b40), (.ref b40)])) _
      refine XS.dup X59.here hx rfl (hb hby at_94) rfl rfl ?_
      show Steps p.tables e below (T59.setTop (mkF m 95 #[.val (.int p1), .val (.int (1 : Int32)), .val (.ref a_RULE_1014_8_0_114), .val (.ref a_RULE_1016_0_12), .unset, .unset, .unset] [(.ref b43), (.ref b43), (.ref b40), (.ref b40)])) _
      refine XT.bipushV X59.here hx rfl (8 : Int32) (hb hby at_95) (by decide) ?_
      show Steps p.tables e below (T59.setTop (mkF m 97 #[.val (.int p1), .val (.int (1 : Int32)), .val (.ref a_RULE_1014_8_0_114), .val (.ref a_RULE_1016_0_12), .unset, .unset, .unset] [(.int (8 : Int32)), (.ref b43), (.ref b43), (.ref b40), (.ref b40)])) _
      refine XT.bipushV X59.here hx rfl (46 : Int32) (hb hby at_97) (by decide) ?_
      show Steps p.tables e below (T59.setTop (mkF m 99 #[.val (.int p1), .val (.int (1 : Int32)), .val (.ref a_RULE_1014_8_0_114), .val (.ref a_RULE_1016_0_12), .unset, .unset, .unset] [(.int (46 : Int32)), (.int (8 : Int32)), (.ref b43), (.ref b43), (.ref b40), (.ref b40)])) _
      refine st61 _ ?_
      show Steps p.tables e below (T61.setTop (mkF m 100 #[.val (.int p1), .val (.int (1 : Int32)), .val (.ref a_RULE_1014_8_0_114), .val (.ref a_RULE_1016_0_12), .unset, .unset, .unset] [(.ref b43), (.ref b40), (.ref b40)])) _
      refine XS.dup X61.here hx rfl (hb hby at_100) rfl rfl ?_
      show Steps p.tables e below (T61.setTop (mkF m 101 #[.val (.int p1), .val (.int (1 : Int32)), .val (.ref a_RULE_1014_8_0_114), .val (.ref a_RULE_1016_0_12), .unset, .unset, .unset] [(.ref b43), (.ref b43), (.ref b40), (.ref b40)])) _
      refine XT.bipushV X61.here hx rfl (9 : Int32) (hb hby at_101) (by decide) ?_
      show Steps p.tables e below (T61.setTop (mkF m 103 #[.val (.int p1), .val (.int (1 : Int32)), .val (.ref a_RULE_1014_8_0_114), .val (.ref a_RULE_1016_0_12), .unset, .unset, .unset] [(.int (9 : Int32)), (.ref b43), (.ref b43), (.ref b40), (.ref b40)])) _
      refine XT.bipushV X61.here hx rfl (49 : Int32) (hb hby at_103) (by decide) ?_
      show Steps p.tables e below (T61.setTop (mkF m 105 #[.val (.int p1), .val (.int (1 : Int32)), .val (.ref a_RULE_1014_8_0_114), .val (.ref a_RULE_1016_0_12), .unset, .unset, .unset] [(.int (49 : Int32)), (.int (9 : Int32)), (.ref b43), (.ref b43), (.ref b40), (.ref b40)])) _
      refine st63 _ ?_
      show Steps p.tables e below (T63.setTop (mkF m 106 #[.val (.int p1), .val (.int (1 : Int32)), .val (.ref a_RULE_1014_8_0_114), .val (.ref a_RULE_1016_0_12), .unset, .unset, .unset] [(.ref b43), (.ref b40), (.ref b40)])) _
      refine XS.dup X63.here hx rfl (hb hby at_106) rfl rfl ?_
      show Steps p.tables e below (T63.setTop (mkF m 107 #[.val (.int p1), .val (.int (1 : Int32)), .val (.ref a_RULE_1014_8_0_114), .val (.ref a_RULE_1016_0_12), .unset, .unset, .unset] [(.ref b43), (.ref b43), (.ref b40), (.ref b40)])) _
      refine XT.bipushV X63.here hx rfl (10 : Int32) (hb hby at_107) (by decide) ?_
      show Steps p.tables e below (T63.setTop (mkF m 109 #[.val (.int p1), .val (.int (1 : Int32)), .val (.ref a_RULE_1014_8_0_114), .val (.ref a_RULE_1016_0_12), .unset, .unset, .unset] [(.int (10 : Int32)), (.ref b43), (.ref b43), (.ref b40), (.ref b40)])) _
      refine XT.bipushV X63.here hx rfl (49 : Int32) (hb hby at_109) (by decide) ?_
      show Steps p.tables e below (T63.setTop (mkF m 111 #[.val (.int p1), .val (.int (1 : Int32)), .val (.ref a_RULE_1014_8_0_114), .val (.ref a_RULE_1016_0_12), .unset, .unset, .unset] [(.int (49 : Int32)), (.int (10 : Int32)), (.ref b43), (.ref b43), (.ref b40), (.ref b40)])) _
      refine st65 _ ?_
      show Steps p.tables e below (T65.setTop (mkF m 112 #[.val (.int p1), .val (.int (1 : Int32)), .val (.ref a_RULE_1014_8_0_114), .val (.ref a_RULE_1016_0_12), .unset, .unset, .unset] [(.ref b43), (.ref b40), (.ref b40)])) _
      refine XS.dup X65.here hx rfl (hb hby at_112) rfl rfl ?_
      show Steps p.tables e below (T65.setTop (mkF m 113 #[.val (.int p1), .val (.int (1 : Int32)), .val (.ref a_RULE_1014_8_0_114), .val (.ref a_RULE_1016_0_12), .unset, .unset, .unset] [(.ref b43), (.ref b43), (.ref b40), (.ref b40)])) _
      refine XT.bipushV X65.here hx rfl (11 : Int32) (hb hby at_113) (by decide) ?_
      show Steps p.tables e below (T65.setTop (mkF m 115 #[.val (.int p1), .val (.int (1 : Int32)), .val (.ref a_RULE_1014_8_0_114), .val (.ref a_RULE_1016_0_12), .unset, .unset, .unset] [(.int (11 : Int32)), (.ref b43), (.ref b43), (.ref b40), (.ref b40)])) _
      refine XT.bipushV X65.here hx rfl (52 : Int32) (hb hby at_115) (by decide) ?_
      show Steps p.tables e below (T65.setTop (mkF m 117 #[.val (.int p1), .val (.int (1 : Int32)), .val (.ref a_RULE_1014_8_0_114), .val (.ref a_RULE_1016_0_12), .unset, .unset, .unset] [(.int (52 : Int32)), (.int (11 : Int32)), (.ref b43), (.ref b43), (.ref b40), (.ref b40)])) _
      refine st67 _ ?_
      show Steps p.tables e below (T67.setTop (mkF m 118 #[.val (.int p1), .val (.int (1 : Int32)), .val (.ref a_RULE_1014_8_0_114), .val (.ref a_RULE_1016_0_12), .unset, .unset, .unset] [(.ref b43), (.ref b40), (.ref b40)])) _
      refine st72.trans ?_
      show Steps p.tables e below (T72.setTop (mkF m 121 #[.val (.int p1), .val (.int (1 : Int32)), .val (.ref a_RULE_1014_8_0_114), .val (.ref a_RULE_1016_0_12), .unset, .unset, .unset] [(.ref b40)])) _
      refine XS.goto X72.here hx rfl (pc0 := 121) (pc' := 183) rfl (hb hby at_121) (by decide) (by decide) ?_
      show Steps p.tables e below (T72.setTop (mkF m 183 #[.val (.int p1), .val (.int (1 : Int32)), .val (.ref a_RULE_1014_8_0_114), .val (.ref a_RULE_1016_0_12), .unset, .unset, .unset] [(.ref b40)])) _
      refine XS.astore X72.here hx rfl (hb hby at_183) rfl rfl (l' := #[.val (.int p1), .val (.int (1 : Int32)), .val (.ref a_RULE_1014_8_0_114), .val (.ref a_RULE_1016_0_12), .val (.ref b40), .unset, .unset]) rfl ?_
      show Steps p.tables e below (T72.setTop (mkF m 185 #[.val (.int p1), .val (.int (1 : Int32)), .val (.ref a_RULE_1014_8_0_114), .val (.ref a_RULE_1016_0_12), .val (.ref b40), .unset, .unset] [])) _
      refine XS.aload X72.here hx rfl (hb hby at_185) rfl rfl ?_
      show Steps p.tables e below (T72.setTop (mkF m 187 #[.val (.int p1), .val (.int (1 : Int32)), .val (.ref a_RULE_1014_8_0_114), .val (.ref a_RULE_1016_0_12), .val (.ref b40), .unset, .unset] [(.ref b40)])) _
      refine st74.trans ?_
      show Steps p.tables e below (T74.setTop (mkF m 190 #[.val (.int p1), .val (.int (1 : Int32)), .val (.ref a_RULE_1014_8_0_114), .val (.ref a_RULE_1016_0_12), .val (.ref b40), .unset, .unset] [(.ref a_RULE_1014_8_0_114)])) _
      refine XS.astore X74.here hx rfl (hb hby at_190) rfl rfl (l' := #[.val (.int p1), .val (.int (1 : Int32)), .val (.ref a_RULE_1014_8_0_114), .val (.ref a_RULE_1016_0_12), .val (.ref b40), .val (.ref a_RULE_1014_8_0_114), .unset]) rfl ?_
      show Steps p.tables e below (T74.setTop (mkF m 192 #[.val (.int p1), .val (.int (1 : Int32)), .val (.ref a_RULE_1014_8_0_114), .val (.ref a_RULE_1016_0_12), .val (.ref b40), .val (.ref a_RULE_1014_8_0_114), .unset] [])) _
      refine XS.aloadN X74.here hx rfl (hb hby at_192) rfl rfl ?_
      show Steps p.tables e below (T74.setTop (mkF m 193 #[.val (.int p1), .val (.int (1 : Int32)), .val (.ref a_RULE_1014_8_0_114), .val (.ref a_RULE_1016_0_12), .val (.ref b40), .val (.ref a_RULE_1014_8_0_114), .unset] [(.ref a_RULE_1014_8_0_114)])) _
      refine st75.trans ?_
      show Steps p.tables e below (T75.setTop (mkF m 196 #[.val (.int p1), .val (.int (1 : Int32)), .val (.ref a_RULE_1014_8_0_114), .val (.ref a_RULE_1016_0_12), .val (.ref b40), .val (.ref a_RULE_1014_8_0_114), .unset] [(.ref a_RULE_1014_8_0_114_text)])) _
      refine st77.trans ?_
      show Steps p.tables e below (T77.setTop (mkF m 199 #[.val (.int p1), .val (.int (1 : Int32)), .val (.ref a_RULE_1014_8_0_114), .val (.ref a_RULE_1016_0_12), .val (.ref b40), .val (.ref a_RULE_1014_8_0_114), .unset] [(.ref a_RULE_1014_8_0_114)])) _
      refine XS.astore X77.here hx rfl (hb hby at_199) rfl rfl (l' := #[.val (.int p1), .val (.int (1 : Int32)), .val (.ref a_RULE_1014_8_0_114), .val (.ref a_RULE_1016_0_12), .val (.ref b40), .val (.ref a_RULE_1014_8_0_114), .val (.ref a_RULE_1014_8_0_114)]) rfl ?_
      show Steps p.tables e below (T77.setTop (mkF m 201 #[.val (.int p1), .val (.int (1 : Int32)), .val (.ref a_RULE_1014_8_0_114), .val (.ref a_RULE_1016_0_12), .val (.ref b40), .val (.ref a_RULE_1014_8_0_114), .val (.ref a_RULE_1014_8_0_114)] [])) _
      refine XS.aload X77.here hx rfl (hb hby at_201) rfl rfl ?_
      show Steps p.tables e below (T77.setTop (mkF m 203 #[.val (.int p1), .val (.int (1 : Int32)), .val (.ref a_RULE_1014_8_0_114), .val (.ref a_RULE_1016_0_12), .val (.ref b40), .val (.ref a_RULE_1014_8_0_114), .val (.ref a_RULE_1014_8_0_114)] [(.ref a_RULE_1014_8_0_114)])) _
      refine XS.aloadN X77.here hx rfl (hb hby at_203) rfl rfl ?_
      show Steps p.tables e below (T77.setTop (mkF m 204 #[.val (.int p1), .val (.int (1 : Int32)), .val (.ref a_RULE_1014_8_0_114), .val (.ref a_RULE_1016_0_12), .val (.ref b40), .val (.ref a_RULE_1014_8_0_114), .val (.ref a_RULE_1014_8_0_114)] [(.ref a_RULE_1014_8_0_114), (.ref a_RULE_1014_8_0_114)])) _
      refine Jvm.RoadKit.acmp (g := (mkF m 204 #[.val (.int p1), .val (.int (1 : Int32)), .val (.ref a_RULE_1014_8_0_114), .val (.ref a_RULE_1016_0_12), .val (.ref b40), .val (.ref a_RULE_1014_8_0_114), .val (.ref a_RULE_1014_8_0_114)] [(.ref a_RULE_1014_8_0_114), (.ref a_RULE_1014_8_0_114)])) X77 hx rfl rfl rfl (pc0 := 204) (pc' := 207) (same := true) rfl (hb hby at_204) rfl (decide_eq_true rfl) (by decide) (by decide) ?_
      show Steps p.tables e below (T77.setTop (mkF m 207 #[.val (.int p1), .val (.int (1 : Int32)), .val (.ref a_RULE_1014_8_0_114), .val (.ref a_RULE_1016_0_12), .val (.ref b40), .val (.ref a_RULE_1014_8_0_114), .val (.ref a_RULE_1014_8_0_114)] [])) _
      refine XS.aload X77.here hx rfl (hb hby at_207) rfl rfl ?_
      show Steps p.tables e below (T77.setTop (mkF m 209 #[.val (.int p1), .val (.int (1 : Int32)), .val (.ref a_RULE_1014_8_0_114), .val (.ref a_RULE_1016_0_12), .val (.ref b40), .val (.ref a_RULE_1014_8_0_114), .val (.ref a_RULE_1014_8_0_114)] [(.ref a_RULE_1014_8_0_114)])) _
      refine XS.aloadN X77.here hx rfl (hb hby at_209) rfl rfl ?_
      show Steps p.tables e below (T77.setTop (mkF m 210 #[.val (.int p1), .val (.int (1 : Int32)), .val (.ref a_RULE_1014_8_0_114), .val (.ref a_RULE_1016_0_12), .val (.ref b40), .val (.ref a_RULE_1014_8_0_114), .val (.ref a_RULE_1014_8_0_114)] [(.ref a_RULE_1016_0_12), (.ref a_RULE_1014_8_0_114)])) _
      refine Jvm.RoadKit.acmp (g := (mkF m 210 #[.val (.int p1), .val (.int (1 : Int32)), .val (.ref a_RULE_1014_8_0_114), .val (.ref a_RULE_1016_0_12), .val (.ref b40), .val (.ref a_RULE_1014_8_0_114), .val (.ref a_RULE_1014_8_0_114)] [(.ref a_RULE_1016_0_12), (.ref a_RULE_1014_8_0_114)])) X77 hx rfl rfl rfl (pc0 := 210) (pc' := 213) (same := false) rfl (hb hby at_210) rfl (decide_eq_false fun q => (Fld.ne F_a_RULE_1014_8_0_114_ordinal F_a_RULE_1016_0_12_ordinal (by decide)) (Value.ref.inj q)) (by decide) (by decide) ?_
      show Steps p.tables e below (T77.setTop (mkF m 213 #[.val (.int p1), .val (.int (1 : Int32)), .val (.ref a_RULE_1014_8_0_114), .val (.ref a_RULE_1016_0_12), .val (.ref b40), .val (.ref a_RULE_1014_8_0_114), .val (.ref a_RULE_1014_8_0_114)] [])) _
      refine XS.aload X77.here hx rfl (hb hby at_213) rfl rfl ?_
      show Steps p.tables e below (T77.setTop (mkF m 215 #[.val (.int p1), .val (.int (1 : Int32)), .val (.ref a_RULE_1014_8_0_114), .val (.ref a_RULE_1016_0_12), .val (.ref b40), .val (.ref a_RULE_1014_8_0_114), .val (.ref a_RULE_1014_8_0_114)] [(.ref a_RULE_1014_8_0_114)])) _
      refine XS.aloadN X77.here hx rfl (hb hby at_215) rfl rfl ?_
      show Steps p.tables e below (T77.setTop (mkF m 216 #[.val (.int p1), .val (.int (1 : Int32)), .val (.ref a_RULE_1014_8_0_114), .val (.ref a_RULE_1016_0_12), .val (.ref b40), .val (.ref a_RULE_1014_8_0_114), .val (.ref a_RULE_1014_8_0_114)] [(.ref a_RULE_1014_8_0_114), (.ref a_RULE_1014_8_0_114)])) _
      refine Jvm.RoadKit.acmp (g := (mkF m 216 #[.val (.int p1), .val (.int (1 : Int32)), .val (.ref a_RULE_1014_8_0_114), .val (.ref a_RULE_1016_0_12), .val (.ref b40), .val (.ref a_RULE_1014_8_0_114), .val (.ref a_RULE_1014_8_0_114)] [(.ref a_RULE_1014_8_0_114), (.ref a_RULE_1014_8_0_114)])) X77 hx rfl rfl rfl (pc0 := 216) (pc' := 219) (same := true) rfl (hb hby at_216) rfl (decide_eq_true rfl) (by decide) (by decide) ?_
      show Steps p.tables e below (T77.setTop (mkF m 219 #[.val (.int p1), .val (.int (1 : Int32)), .val (.ref a_RULE_1014_8_0_114), .val (.ref a_RULE_1016_0_12), .val (.ref b40), .val (.ref a_RULE_1014_8_0_114), .val (.ref a_RULE_1014_8_0_114)] [])) _
      refine XT.iconstV X77.here hx rfl (1 : Int32) (hb hby at_219) (by decide) ?_
      show Steps p.tables e below (T77.setTop (mkF m 220 #[.val (.int p1), .val (.int (1 : Int32)), .val (.ref a_RULE_1014_8_0_114), .val (.ref a_RULE_1016_0_12), .val (.ref b40), .val (.ref a_RULE_1014_8_0_114), .val (.ref a_RULE_1014_8_0_114)] [(.int (1 : Int32))])) _
      refine XS.goto X77.here hx rfl (pc0 := 220) (pc' := 224) rfl (hb hby at_220) (by decide) (by decide) ?_
      exact k_
    obtain ⟨fs, hr, hrun, hended, hRW⟩ := X77.leaveW hS77 (by omega) (v := (some (.int (1 : Int32)))) (fun h => by rw [Bd.returns] at h; cases h)
    refine ⟨_, _, S78 _ ((retN X77 hx (t := .boolean) Bd.returns (by simp) (hb hby at_224) hr)), hrun, hended, _, _, rfl, ?_, hRW.1, hRW.2.1, hRW.2.2.1, hRW.2.2.2.mono (by decide) (by decide)⟩
    show Q_law Z p1 cz a_RULE_1016_0_12 a_RULE_1014_8_0_114 a__VALUES a_RULE_1016_0_12_text a_RULE_1016_0_12_text_value a_RULE_1014_8_0_114_text a_RULE_1014_8_0_114_text_value k_a__VALUES k_a_RULE_1016_0_12_text_value k_a_RULE_1014_8_0_114_text_value h0 n0 _ T77.heap _
    exact ⟨rfl, N77⟩
set_option maxRecDepth 65536 in
set_option maxHeartbeats 40000000 in
theorem comes_1 {Post : Tables → Env → Array Value → State → Outcome → State → Prop} (hpost : ∀ tb e args s v u, (limb_1_1.after args s (.returned v) u = true ∧ limb_1_2.after args s (.returned v) u = true ∧ True) → ReturnedEndW s (.returned v) u (Jvm.fieldLocs frame_1_writes args s ++ Jvm.arrayLocs frame_1_arrays args s ++ Jvm.staticLocs frame_1_statics s) 24 1216 → Post tb e args s (.returned v) u) :
    ArmFor flags0 classFile x code maxLocals ret World_1 tables_1 room_1 Calls_1 rest_1 Pre_1 Post := by
  intro l hfl _ _ p e ha hc hk s m args below hf hA hF happ hP
  obtain ⟨hcalls, hrest, hpre⟩ := hP
  obtain ⟨-, -, -, hnamed, -, -, -, hat⟩ := (Spec.applies_iff hf).mp happ
  obtain ⟨hg, hn⟩ := and_e (Cond.before_iff.mp (show (Jvm.Cond.and given_1 narrow_1).before args s = true from hpre))
  obtain ⟨g102, g103⟩ := and_e hg
  obtain ⟨w0, rfl⟩ : ∃ w0 : Value, args = #[w0] := by
    have hs : args.size = 1 := by simpa [Cond.value, given_1] using g102
    obtain ⟨L⟩ := args
    match L, hs with
    | [w0], _ => exact ⟨w0, rfl⟩
  have hw := fun d (hd : d ∈ tables_1) => atoms_spec (ws := Jvm.Cond.code x code maxLocals ret :: tables_1) hat d (List.mem_cons_of_mem _ hd)
  have hfit : Fit s := fun {y c} hc i hi => by
    obtain ⟨ha, rfl⟩ := Array.getElem?_eq_some_iff.mp hc
    have q := List.all_eq_true.mp ((Array.all_eq_true_iff_forall_mem.mp hF) _ (Array.getElem_mem ha)) i (List.mem_range.mpr hi)
    simpa [Array.getElem?_eq_getElem hi] using q
  obtain ⟨hsets, hown0⟩ := atoms_of _ (rest_1_c_eq ▸ (show rest_1_c.before _ s = true from hrest))
  have hr0 := Cond.before_iff.mp hown0
  obtain ⟨i0, ei0⟩ := is_v g103
  obtain rfl : w0 = (.int i0) := Option.some.inj ei0
  obtain ⟨cz, ecz⟩ := is_v (Cond.before_iff.mp (hsets _ (List.mem_of_getElem? (i := 1) rfl)))
  have Scz : Sta s s.heap "java/lang/String" "COMPACT_STRINGS" "Z" (.int cz) := Sta.start ecz (Or.inl (hsets _ (List.mem_of_getElem? (i := 0) rfl)))
  have hcz : ¬ cz = (0 : Int32) := gotF (Cond.eq_ints ecz (Term.int_eval (0))) (not_v (Cond.before_iff.mp (hsets _ (List.mem_of_getElem? (i := 2) rfl))))
  obtain ⟨n_0, hn1⟩ := and_e hn
  obtain ⟨a_RULE_1016_0_12, e_a_RULE_1016_0_12⟩ := exa_v n_0
  have S_RULE_1016_0_12 : Sta s s.heap "com/example/kwhconv/kwhconv/PressureRule" "RULE_1016_0_12" "Lcom/example/kwhconv/kwhconv/PressureRule;" (.ref a_RULE_1016_0_12) := Sta.start e_a_RULE_1016_0_12 (Or.inr ⟨(tw1 hw), (tw2 hw)⟩)
  have E_a_RULE_1016_0_12 := Exa.start e_a_RULE_1016_0_12 n_0
  obtain ⟨n_1, hn2⟩ := and_e hn1
  obtain ⟨a_RULE_1014_8_0_114, e_a_RULE_1014_8_0_114⟩ := exa_v n_1
  have S_RULE_1014_8_0_114 : Sta s s.heap "com/example/kwhconv/kwhconv/PressureRule" "RULE_1014_8_0_114" "Lcom/example/kwhconv/kwhconv/PressureRule;" (.ref a_RULE_1014_8_0_114) := Sta.start e_a_RULE_1014_8_0_114 (Or.inr ⟨(tw1 hw), (tw4 hw)⟩)
  have E_a_RULE_1014_8_0_114 := Exa.start e_a_RULE_1014_8_0_114 n_1
  obtain ⟨n_2, hn3⟩ := and_e hn2
  obtain ⟨a__VALUES, e_a__VALUES⟩ := arr_v n_2
  have S__VALUES : Sta s s.heap "com/example/kwhconv/kwhconv/PressureRule" "$VALUES" "[Lcom/example/kwhconv/kwhconv/PressureRule;" (.ref a__VALUES) := Sta.start e_a__VALUES (Or.inl (tw57 hw))
  obtain ⟨cl_a__VALUES, Ar_a__VALUES⟩ := Arr.start e_a__VALUES n_2
  obtain ⟨n_3, hn4⟩ := and_e hn3
  have E_a__VALUES := Exa.start e_a__VALUES n_3
  obtain ⟨n_4, hn5⟩ := and_e hn4
  have l_1 := own_eqI n_4
  obtain ⟨n_5, hn6⟩ := and_e hn5
  have l_2 := own_eqR n_5 e_a_RULE_1016_0_12
  obtain ⟨n_6, hn7⟩ := and_e hn6
  have l_3 := own_eqR n_6 e_a_RULE_1014_8_0_114
  obtain ⟨n_7, hn8⟩ := and_e hn7
  obtain ⟨a_RULE_1016_0_12_text, e_a_RULE_1016_0_12_text⟩ := exa_v n_7
  have F_a_RULE_1016_0_12_text : Fld s s.heap a_RULE_1016_0_12 "com/example/kwhconv/kwhconv/PressureRule" "text" "Ljava/lang/String;" (.ref a_RULE_1016_0_12_text) := Fld.start ((fld_at e_a_RULE_1016_0_12).symm.trans e_a_RULE_1016_0_12_text)
  have E_a_RULE_1016_0_12_text := Exa.start e_a_RULE_1016_0_12_text n_7
  obtain ⟨n_8, hn9⟩ := and_e hn8
  have l_4 := own_eqI n_8
  have F_a_RULE_1016_0_12_text_coder : Fld s s.heap a_RULE_1016_0_12_text "java/lang/String" "coder" "B" (.int (0 : Int32)) := Fld.start ((fld_at e_a_RULE_1016_0_12_text).symm.trans l_4)
  obtain ⟨n_9, hn10⟩ := and_e hn9
  obtain ⟨a_RULE_1016_0_12_text_value, e_a_RULE_1016_0_12_text_value⟩ := arr_v n_9
  have F_a_RULE_1016_0_12_text_value : Fld s s.heap a_RULE_1016_0_12_text "java/lang/String" "value" "[B" (.ref a_RULE_1016_0_12_text_value) := Fld.start ((fld_at e_a_RULE_1016_0_12_text).symm.trans e_a_RULE_1016_0_12_text_value)
  obtain ⟨cl_a_RULE_1016_0_12_text_value, Ar_a_RULE_1016_0_12_text_value⟩ := Arr.start e_a_RULE_1016_0_12_text_value n_9
  obtain ⟨n_10, hn11⟩ := and_e hn10
  have l_5 := own_eqI n_10
  obtain ⟨n_11, hn12⟩ := and_e hn11
  have l_6 := own_eqI n_11
  have F_a_RULE_1016_0_12_ordinal : Fld s s.heap a_RULE_1016_0_12 "java/lang/Enum" "ordinal" "I" (.int (0 : Int32)) := Fld.start ((fld_at e_a_RULE_1016_0_12).symm.trans l_6)
  obtain ⟨n_12, hn13⟩ := and_e hn12
  have l_7 := own_eqI n_12
  have F_a_RULE_1014_8_0_114_ordinal : Fld s s.heap a_RULE_1014_8_0_114 "java/lang/Enum" "ordinal" "I" (.int (1 : Int32)) := Fld.start ((fld_at e_a_RULE_1014_8_0_114).symm.trans l_7)
  obtain ⟨n_13, hn14⟩ := and_e hn13
  obtain ⟨a_RULE_1014_8_0_114_text, e_a_RULE_1014_8_0_114_text⟩ := exa_v n_13
  have F_a_RULE_1014_8_0_114_text : Fld s s.heap a_RULE_1014_8_0_114 "com/example/kwhconv/kwhconv/PressureRule" "text" "Ljava/lang/String;" (.ref a_RULE_1014_8_0_114_text) := Fld.start ((fld_at e_a_RULE_1014_8_0_114).symm.trans e_a_RULE_1014_8_0_114_text)
  have E_a_RULE_1014_8_0_114_text := Exa.start e_a_RULE_1014_8_0_114_text n_13
  obtain ⟨n_14, hn15⟩ := and_e hn14
  have l_8 := own_eqI n_14
  have F_a_RULE_1014_8_0_114_text_coder : Fld s s.heap a_RULE_1014_8_0_114_text "java/lang/String" "coder" "B" (.int (0 : Int32)) := Fld.start ((fld_at e_a_RULE_1014_8_0_114_text).symm.trans l_8)
  obtain ⟨n_15, hn16⟩ := and_e hn15
  obtain ⟨a_RULE_1014_8_0_114_text_value, e_a_RULE_1014_8_0_114_text_value⟩ := arr_v n_15
  have F_a_RULE_1014_8_0_114_text_value : Fld s s.heap a_RULE_1014_8_0_114_text "java/lang/String" "value" "[B" (.ref a_RULE_1014_8_0_114_text_value) := Fld.start ((fld_at e_a_RULE_1014_8_0_114_text).symm.trans e_a_RULE_1014_8_0_114_text_value)
  obtain ⟨cl_a_RULE_1014_8_0_114_text_value, Ar_a_RULE_1014_8_0_114_text_value⟩ := Arr.start e_a_RULE_1014_8_0_114_text_value n_15
  obtain ⟨n_16, hn17⟩ := and_e hn16
  have l_9 := own_eqI n_16
  obtain ⟨n_17, hn18⟩ := and_e hn17
  -- not read: (Jvm.Cond.not (Jvm.Cond.eq (Jvm.Term.field (Jvm.Term.static "com/example/kwhconv/kwhconv/PressureRule" "RULE_1014_8_0_114" "Lcom/example/kwhconv/kwhco
  obtain ⟨n_18, hn19⟩ := and_e hn18
  have l_10 := own_eqI n_18
  obtain ⟨n_19, hn20⟩ := and_e hn19
  have l_11 := own_eqI n_19
  obtain ⟨n_20, hn21⟩ := and_e hn20
  have l_12 := own_eqI n_20
  obtain ⟨n_21, hn22⟩ := and_e hn21
  have l_13 := own_eqI n_21
  obtain ⟨n_22, hn23⟩ := and_e hn22
  have l_14 := own_eqI n_22
  obtain ⟨n_23, hn24⟩ := and_e hn23
  have l_15 := own_eqI n_23
  obtain ⟨n_24, hn25⟩ := and_e hn24
  have l_16 := own_eqI n_24
  obtain ⟨n_25, hn26⟩ := and_e hn25
  have l_17 := own_eqI n_25
  obtain ⟨n_26, hn27⟩ := and_e hn26
  have l_18 := own_eqI n_26
  obtain ⟨n_27, hn28⟩ := and_e hn27
  have l_19 := own_eqI n_27
  obtain ⟨n_28, hn29⟩ := and_e hn28
  have l_20 := own_eqI n_28
  obtain ⟨n_29, hn30⟩ := and_e hn29
  have l_21 := own_eqI n_29
  obtain ⟨n_30, hn31⟩ := and_e hn30
  have l_22 := own_eqI n_30
  obtain ⟨n_31, hn32⟩ := and_e hn31
  have l_23 := own_eqI n_31
  obtain ⟨n_32, hn33⟩ := and_e hn32
  have l_24 := own_eqI n_32
  obtain ⟨n_33, hn34⟩ := and_e hn33
  have l_25 := own_eqI n_33
  obtain ⟨n_34, hn35⟩ := and_e hn34
  have l_26 := own_eqI n_34
  obtain ⟨n_35, hn36⟩ := and_e hn35
  have l_27 := own_eqI n_35
  obtain ⟨n_36, hn37⟩ := and_e hn36
  have l_28 := own_eqI n_36
  obtain ⟨n_37, hn38⟩ := and_e hn37
  have l_29 := own_eqI n_37
  have l_30 := own_eqI hn38
  have z_a__VALUES := own_len e_a__VALUES Ar_a__VALUES l_1
  have A_a__VALUES : Arv s s.heap a__VALUES cl_a__VALUES.cls (.object "com/example/kwhconv/kwhconv/PressureRule") (2 : Int32) [(.ref a_RULE_1016_0_12), (.ref a_RULE_1014_8_0_114)] .null := Arv.start hfit Ar_a__VALUES z_a__VALUES.1 z_a__VALUES.2 (by decide) rfl ⟨(elem_in l_2 e_a__VALUES (Term.int_eval _) Ar_a__VALUES.1).2, (elem_in l_3 e_a__VALUES (Term.int_eval _) Ar_a__VALUES.1).2, trivial⟩
  have z_a_RULE_1016_0_12_text_value := own_len e_a_RULE_1016_0_12_text_value Ar_a_RULE_1016_0_12_text_value l_5
  have A_a_RULE_1016_0_12_text_value : Arv s s.heap a_RULE_1016_0_12_text_value cl_a_RULE_1016_0_12_text_value.cls .byte (9 : Int32) [(.int (49 : Int32)), (.int (48 : Int32)), (.int (49 : Int32)), (.int (54 : Int32)), (.int (45 : Int32)), (.int (48 : Int32)), (.int (46 : Int32)), (.int (49 : Int32)), (.int (50 : Int32))] (.int (0 : Int32)) := Arv.start hfit Ar_a_RULE_1016_0_12_text_value z_a_RULE_1016_0_12_text_value.1 z_a_RULE_1016_0_12_text_value.2 (by decide) rfl ⟨(elem_in l_10 e_a_RULE_1016_0_12_text_value (Term.int_eval _) Ar_a_RULE_1016_0_12_text_value.1).2, (elem_in l_11 e_a_RULE_1016_0_12_text_value (Term.int_eval _) Ar_a_RULE_1016_0_12_text_value.1).2, (elem_in l_12 e_a_RULE_1016_0_12_text_value (Term.int_eval _) Ar_a_RULE_1016_0_12_text_value.1).2, (elem_in l_13 e_a_RULE_1016_0_12_text_value (Term.int_eval _) Ar_a_RULE_1016_0_12_text_value.1).2, (elem_in l_14 e_a_RULE_1016_0_12_text_value (Term.int_eval _) Ar_a_RULE_1016_0_12_text_value.1).2, (elem_in l_15 e_a_RULE_1016_0_12_text_value (Term.int_eval _) Ar_a_RULE_1016_0_12_text_value.1).2, (elem_in l_16 e_a_RULE_1016_0_12_text_value (Term.int_eval _) Ar_a_RULE_1016_0_12_text_value.1).2, (elem_in l_17 e_a_RULE_1016_0_12_text_value (Term.int_eval _) Ar_a_RULE_1016_0_12_text_value.1).2, (elem_in l_18 e_a_RULE_1016_0_12_text_value (Term.int_eval _) Ar_a_RULE_1016_0_12_text_value.1).2, trivial⟩
  have z_a_RULE_1014_8_0_114_text_value := own_len e_a_RULE_1014_8_0_114_text_value Ar_a_RULE_1014_8_0_114_text_value l_9
  have A_a_RULE_1014_8_0_114_text_value : Arv s s.heap a_RULE_1014_8_0_114_text_value cl_a_RULE_1014_8_0_114_text_value.cls .byte (12 : Int32) [(.int (49 : Int32)), (.int (48 : Int32)), (.int (49 : Int32)), (.int (52 : Int32)), (.int (46 : Int32)), (.int (56 : Int32)), (.int (45 : Int32)), (.int (48 : Int32)), (.int (46 : Int32)), (.int (49 : Int32)), (.int (49 : Int32)), (.int (52 : Int32))] (.int (0 : Int32)) := Arv.start hfit Ar_a_RULE_1014_8_0_114_text_value z_a_RULE_1014_8_0_114_text_value.1 z_a_RULE_1014_8_0_114_text_value.2 (by decide) rfl ⟨(elem_in l_19 e_a_RULE_1014_8_0_114_text_value (Term.int_eval _) Ar_a_RULE_1014_8_0_114_text_value.1).2, (elem_in l_20 e_a_RULE_1014_8_0_114_text_value (Term.int_eval _) Ar_a_RULE_1014_8_0_114_text_value.1).2, (elem_in l_21 e_a_RULE_1014_8_0_114_text_value (Term.int_eval _) Ar_a_RULE_1014_8_0_114_text_value.1).2, (elem_in l_22 e_a_RULE_1014_8_0_114_text_value (Term.int_eval _) Ar_a_RULE_1014_8_0_114_text_value.1).2, (elem_in l_23 e_a_RULE_1014_8_0_114_text_value (Term.int_eval _) Ar_a_RULE_1014_8_0_114_text_value.1).2, (elem_in l_24 e_a_RULE_1014_8_0_114_text_value (Term.int_eval _) Ar_a_RULE_1014_8_0_114_text_value.1).2, (elem_in l_25 e_a_RULE_1014_8_0_114_text_value (Term.int_eval _) Ar_a_RULE_1014_8_0_114_text_value.1).2, (elem_in l_26 e_a_RULE_1014_8_0_114_text_value (Term.int_eval _) Ar_a_RULE_1014_8_0_114_text_value.1).2, (elem_in l_27 e_a_RULE_1014_8_0_114_text_value (Term.int_eval _) Ar_a_RULE_1014_8_0_114_text_value.1).2, (elem_in l_28 e_a_RULE_1014_8_0_114_text_value (Term.int_eval _) Ar_a_RULE_1014_8_0_114_text_value.1).2, (elem_in l_29 e_a_RULE_1014_8_0_114_text_value (Term.int_eval _) Ar_a_RULE_1014_8_0_114_text_value.1).2, (elem_in l_30 e_a_RULE_1014_8_0_114_text_value (Term.int_eval _) Ar_a_RULE_1014_8_0_114_text_value.1).2, trivial⟩
  obtain ⟨n, o, h1, h2, h3, _, L, rfl, ⟨rfl, N⟩, hq⟩ := rm_law l s _ hw tables_1 i0 cz a_RULE_1016_0_12 a_RULE_1014_8_0_114 a__VALUES a_RULE_1016_0_12_text a_RULE_1016_0_12_text_value a_RULE_1014_8_0_114_text a_RULE_1014_8_0_114_text_value cl_a__VALUES.cls cl_a_RULE_1016_0_12_text_value.cls cl_a_RULE_1014_8_0_114_text_value.cls s.heap s.heap.size (Nat.le_refl _) (Old.start s) Scz hcz S_RULE_1016_0_12 E_a_RULE_1016_0_12 S_RULE_1014_8_0_114 E_a_RULE_1014_8_0_114 S__VALUES E_a__VALUES F_a_RULE_1016_0_12_text E_a_RULE_1016_0_12_text F_a_RULE_1016_0_12_text_coder F_a_RULE_1016_0_12_text_value F_a_RULE_1016_0_12_ordinal F_a_RULE_1014_8_0_114_ordinal F_a_RULE_1014_8_0_114_text E_a_RULE_1014_8_0_114_text F_a_RULE_1014_8_0_114_text_coder F_a_RULE_1014_8_0_114_text_value A_a__VALUES A_a_RULE_1016_0_12_text_value A_a_RULE_1014_8_0_114_text_value p e ha hc hk s m _ below hf ((Spec.applies_iff_loose hf).mp happ).1 ⟨rfl, State.Warmed39.refl s, rfl⟩ trivial
  refine ⟨n, _, h1, h2, h3, hpost _ _ _ _ _ _ ⟨Cond.after_iff.mpr rfl, Cond.after_iff.mpr (eq_i res_at (Term.int_eval (1)) rfl), trivial⟩ ⟨hq.1, hq.2.1, hq.2.2.1, (hq.2.2.2.sift fun y hy => Or.inr (N y hy)).mono (by decide) (by decide)⟩⟩
theorem main_1_1 : Claimed_1_1 := comes_1 fun _ _ _ _ _ _ h hF => ⟨h.1, hF⟩
theorem main_1_2 : Claimed_1_2 := comes_1 fun _ _ _ _ _ _ h hF => ⟨h.2.1, hF⟩
end Jvm.Pilot.@@N@@
namespace Jvm.Pilot.@@N@@
open Jvm Jvm.ClassFile Sem Op Lib Jvm.Free Jvm.Stand Jvm.Pilot.@@N@@.Jvm.D
/-! MADE BY PROGRAM (witnessworld.py) out of the Statement's table words and the real class files: 23 classes; the members and pool entries that the words name. The judged class is class 1, her method 1. -/
namespace start1
open Jvm.ClassFile
def u (s : String) : CpInfo := .utf8 (stringToUtf16 s)
/-- a pool by its gaps: so many unusable entries, then the entry; so many at the end -/
def gap : Nat → List CpInfo → List CpInfo
  | 0, r => r
  | n + 1, r => .unusable :: gap n r
def poolList (es : List (Nat × CpInfo)) (last : Nat) : List CpInfo := es.foldr (fun e r => gap e.1 (e.2 :: r)) (gap last [])
def pool (es : List (Nat × CpInfo)) (last : Nat) : Array CpInfo := ⟨poolList es last⟩
def fileOf (pool : Array CpInfo) (this : Nat) (attrs : Array Attribute := #[]) (ms : Array MethodInfo := #[]) (fl : Nat := 33) (sup : Nat := 0) (ifs : Array Nat := #[]) (fds : Array FieldInfo := #[]) : ClassFile where
  minorVersion := 0
  majorVersion := 65
  constantPool := pool
  accessFlags := fl
  thisClass := this
  superClass := sup
  interfaces := ifs
  fields := fds
  methods := ms
  attributes := attrs
def plain (name : String) (sup : Option ClassId) : Class where
  name := name
  kind := .ordinary
  loader := none
  accessFlags := 33
  super := sup
  interfaces := #[]
  cf := none
  fields := #[]
  methods := #[]
  instanceTypes := #[]
  staticTypes := #[]
  resolved := #[]
  callSites := []
  init := .initialized
  statics := none
  mirror := none

def pool0 : Array CpInfo := pool [(5, u "<init>"), (0, u "()V"), (1, .class_ 10), (1, u "java/lang/Object"), (85, u "clone"), (0, u "()Ljava/lang/Object;")] 26

def k0c0 : Code := { maxStack := 0, maxLocals := 1, code := object_method_1_code, exceptionTable := #[], attributes := #[] }
def k0m0 : Method := { name := "<init>", desc := "()V", sig := { parameters := [], returnType := none }, accessFlags := 1, code := some k0c0 }
def k0m1 : Method := { name := "clone", desc := "()Ljava/lang/Object;", sig := { parameters := [], returnType := some (.object "java/lang/Object") }, accessFlags := 260, code := none }
/-- java/lang/Object -/
def k0 : Class := { plain "java/lang/Object" none with
  accessFlags := 33
  interfaces := #[]
  cf := some (fileOf pool0 8 #[] #[{ accessFlags := 1, nameIndex := 5, descriptorIndex := 6, attributes := #[] }, { accessFlags := 260, nameIndex := 96, descriptorIndex := 97, attributes := #[] }] 33 0 #[] #[])
  fields := #[]
  methods := #[k0m0, k0m1]
  instanceTypes := #[]
  staticTypes := #[]
  resolved := Array.replicate 124 none
  statics := none }

def pool1 : Array CpInfo := pool [(2, .class_ 4), (1, u "java/lang/Object"), (0, u "<init>"), (0, u "()V"), (0, .fieldref 8 9), (0, .class_ 10), (0, .nameAndType 11 12), (0, u "com/example/kwhconv/kwhconv/PressureRule"), (0, u "RULE_1014_8_0_114"), (0, u "Lcom/example/kwhconv/kwhconv/PressureRule;"), (0, .fieldref 8 14), (0, .nameAndType 15 12), (0, u "RULE_1016_0_12"), (0, .class_ 17), (0, u "java/lang/String"), (0, .methodref 16 19), (0, .nameAndType 5 20), (0, u "([C)V"), (0, .methodref 8 22), (0, .nameAndType 23 24), (0, u "of"), (0, u "(Ljava/lang/String;)Lcom/example/kwhconv/kwhconv/PressureRule;"), (0, .methodref 8 26), (0, .nameAndType 27 28), (0, u "toString"), (0, u "()Ljava/lang/String;"), (0, .class_ 30), (0, u "com/example/kwhconv/kwhconv/PressureRuleOfPinLaw"), (2, u "law"), (0, u "(I)Z")] 3

def k1m0 : Method := { name := "<init>", desc := "()V", sig := { parameters := [], returnType := none }, accessFlags := 1, code := none }
def k1c1 : Code := { maxStack := 6, maxLocals := 7, code := code, exceptionTable := #[], attributes := #[] }
def k1m1 : Method := { name := "law", desc := "(I)Z", sig := { parameters := [.int], returnType := some .boolean }, accessFlags := 9, code := some k1c1 }
/-- com/example/kwhconv/kwhconv/PressureRuleOfPinLaw -/
def k1 : Class := { plain "com/example/kwhconv/kwhconv/PressureRuleOfPinLaw" (some 0) with
  accessFlags := 49
  interfaces := #[]
  cf := some (fileOf pool1 29 #[] #[{ accessFlags := 1, nameIndex := 5, descriptorIndex := 6, attributes := #[] }, { accessFlags := 9, nameIndex := 33, descriptorIndex := 34, attributes := #[] }] 49 2 #[] #[])
  fields := #[]
  methods := #[k1m0, k1m1]
  instanceTypes := #[]
  staticTypes := #[]
  resolved := Array.replicate 38 none
  statics := none }

def pool2 : Array CpInfo := pool [(1, .class_ 2), (0, u "java/lang/constant/Constable"), (0, .class_ 4), (0, u "java/lang/Object")] 6

/-- java/lang/constant/Constable -/
def k2 : Class := { plain "java/lang/constant/Constable" (some 0) with
  accessFlags := 1537
  interfaces := #[]
  cf := some (fileOf pool2 1 #[] #[] 1537 3 #[] #[])
  fields := #[]
  methods := #[]
  instanceTypes := #[]
  staticTypes := #[]
  resolved := Array.replicate 11 none
  statics := none }

def pool3 : Array CpInfo := pool [(1, .class_ 2), (0, u "java/lang/Comparable"), (0, .class_ 4), (0, u "java/lang/Object")] 7

/-- java/lang/Comparable -/
def k3 : Class := { plain "java/lang/Comparable" (some 0) with
  accessFlags := 1537
  interfaces := #[]
  cf := some (fileOf pool3 1 #[] #[] 1537 3 #[] #[])
  fields := #[]
  methods := #[]
  instanceTypes := #[]
  staticTypes := #[]
  resolved := Array.replicate 12 none
  statics := none }

def pool4 : Array CpInfo := pool [(1, .class_ 2), (0, u "java/io/Serializable"), (0, .class_ 4), (0, u "java/lang/Object")] 2

/-- java/io/Serializable -/
def k4 : Class := { plain "java/io/Serializable" (some 0) with
  accessFlags := 1537
  interfaces := #[]
  cf := some (fileOf pool4 1 #[] #[] 1537 3 #[] #[])
  fields := #[]
  methods := #[]
  instanceTypes := #[]
  staticTypes := #[]
  resolved := Array.replicate 7 none
  statics := none }

def pool5 : Array CpInfo := pool [(2, .class_ 4), (1, u "java/lang/Enum"), (0, u "name"), (0, u "Ljava/lang/String;"), (2, u "ordinal"), (0, u "I"), (1, .class_ 14), (1, u "java/lang/Object"), (4, u "hash"), (86, .class_ 108), (1, u "java/lang/Enum$EnumDesc"), (2, .class_ 112), (0, u "java/lang/constant/Constable"), (0, .class_ 114), (0, u "java/lang/Comparable"), (0, .class_ 116), (0, u "java/io/Serializable")] 87

/-- java/lang/Enum -/
def k5 : Class := { plain "java/lang/Enum" (some 0) with
  accessFlags := 1057
  interfaces := #[2, 3, 4]
  cf := some (fileOf pool5 2 #[.nestMembers #[106]] #[] 1057 12 #[111, 113, 115] #[{ accessFlags := 18, nameIndex := 5, descriptorIndex := 6, attributes := #[] }, { accessFlags := 18, nameIndex := 9, descriptorIndex := 10, attributes := #[] }, { accessFlags := 2, nameIndex := 19, descriptorIndex := 10, attributes := #[] }])
  fields := #[{ name := "name", type := (.object "java/lang/String"), accessFlags := 18, slot := 0, constantValue := 0 }, { name := "ordinal", type := .int, accessFlags := 18, slot := 1, constantValue := 0 }, { name := "hash", type := .int, accessFlags := 2, slot := 2, constantValue := 0 }]
  methods := #[]
  instanceTypes := #[(.object "java/lang/String"), .int, .int]
  staticTypes := #[]
  resolved := Array.replicate 204 none
  statics := none }

def pool6 : Array CpInfo := pool [(1, .class_ 2), (0, u "com/example/kwhconv/kwhconv/PressureRule"), (2, u "RULE_1016_0_12"), (0, u "Lcom/example/kwhconv/kwhconv/PressureRule;"), (2, u "RULE_1014_8_0_114"), (0, .fieldref 1 11), (0, .nameAndType 12 13), (0, u "$VALUES"), (0, u "[Lcom/example/kwhconv/kwhconv/PressureRule;"), (0, .methodref 15 16), (0, .class_ 13), (0, .nameAndType 17 18), (0, u "clone"), (0, u "()Ljava/lang/Object;"), (1, .class_ 22), (1, u "java/lang/Enum"), (13, u "seaLevelMbar"), (0, u "Ljava/math/BigDecimal;"), (2, u "mbarPerMetre"), (4, .fieldref 1 46), (0, .nameAndType 47 48), (0, u "text"), (0, u "Ljava/lang/String;"), (0, .string 50), (0, u "pressure rule"), (0, .methodref 52 53), (0, .class_ 54), (0, .nameAndType 55 56), (0, u "java/util/Objects"), (0, u "requireNonNull"), (0, u "(Ljava/lang/Object;Ljava/lang/String;)Ljava/lang/Object;"), (0, .methodref 1 58), (0, .nameAndType 59 60), (0, u "values"), (0, u "()[Lcom/example/kwhconv/kwhconv/PressureRule;"), (0, .methodref 62 63), (0, .class_ 64), (0, .nameAndType 65 66), (0, u "java/lang/String"), (0, u "equals"), (0, u "(Ljava/lang/Object;)Z"), (5, u "()Ljava/lang/String;"), (80, u "HALF_MBAR"), (0, .class_ 155), (0, u "com/example/kwhconv/kwhconv/PressureRule$HeightZone"), (11, u "HEIGHT"), (0, u "Lcom/example/kwhconv/kwhconv/Range;"), (29, u "MAX_LIMIT_DISTANCE_M"), (25, u "DEFAULT"), (19, u "(Ljava/lang/String;)Lcom/example/kwhconv/kwhconv/PressureRule;"), (3, u "of"), (7, u "toString")] 45

def k6c0 : Code := { maxStack := 1, maxLocals := 0, code := prog_16_method_1_code, exceptionTable := #[], attributes := #[] }
def k6m0 : Method := { name := "values", desc := "()[Lcom/example/kwhconv/kwhconv/PressureRule;", sig := { parameters := [], returnType := some (.array (.object "com/example/kwhconv/kwhconv/PressureRule")) }, accessFlags := 9, code := some k6c0 }
def k6c1 : Code := { maxStack := 4, maxLocals := 5, code := prog_16_method_4_code, exceptionTable := #[], attributes := #[] }
def k6m1 : Method := { name := "of", desc := "(Ljava/lang/String;)Lcom/example/kwhconv/kwhconv/PressureRule;", sig := { parameters := [(.object "java/lang/String")], returnType := some (.object "com/example/kwhconv/kwhconv/PressureRule") }, accessFlags := 9, code := some k6c1 }
def k6c2 : Code := { maxStack := 1, maxLocals := 1, code := prog_16_method_13_code, exceptionTable := #[], attributes := #[] }
def k6m2 : Method := { name := "toString", desc := "()Ljava/lang/String;", sig := { parameters := [], returnType := some (.object "java/lang/String") }, accessFlags := 1, code := some k6c2 }
/-- com/example/kwhconv/kwhconv/PressureRule -/
def k6 : Class := { plain "com/example/kwhconv/kwhconv/PressureRule" (some 5) with
  accessFlags := 16433
  interfaces := #[]
  cf := some (fileOf pool6 1 #[.nestMembers #[154]] #[{ accessFlags := 9, nameIndex := 59, descriptorIndex := 60, attributes := #[] }, { accessFlags := 9, nameIndex := 248, descriptorIndex := 244, attributes := #[] }, { accessFlags := 1, nameIndex := 256, descriptorIndex := 72, attributes := #[] }] 16433 20 #[] #[{ accessFlags := 16409, nameIndex := 5, descriptorIndex := 6, attributes := #[] }, { accessFlags := 16409, nameIndex := 9, descriptorIndex := 6, attributes := #[] }, { accessFlags := 25, nameIndex := 224, descriptorIndex := 6, attributes := #[] }, { accessFlags := 26, nameIndex := 167, descriptorIndex := 168, attributes := #[] }, { accessFlags := 25, nameIndex := 198, descriptorIndex := 37, attributes := #[] }, { accessFlags := 26, nameIndex := 153, descriptorIndex := 37, attributes := #[] }, { accessFlags := 18, nameIndex := 36, descriptorIndex := 37, attributes := #[] }, { accessFlags := 18, nameIndex := 40, descriptorIndex := 37, attributes := #[] }, { accessFlags := 18, nameIndex := 47, descriptorIndex := 48, attributes := #[] }, { accessFlags := 4122, nameIndex := 12, descriptorIndex := 13, attributes := #[] }])
  fields := #[{ name := "RULE_1016_0_12", type := (.object "com/example/kwhconv/kwhconv/PressureRule"), accessFlags := 16409, slot := 0, constantValue := 0 }, { name := "RULE_1014_8_0_114", type := (.object "com/example/kwhconv/kwhconv/PressureRule"), accessFlags := 16409, slot := 1, constantValue := 0 }, { name := "DEFAULT", type := (.object "com/example/kwhconv/kwhconv/PressureRule"), accessFlags := 25, slot := 2, constantValue := 0 }, { name := "HEIGHT", type := (.object "com/example/kwhconv/kwhconv/Range"), accessFlags := 26, slot := 3, constantValue := 0 }, { name := "MAX_LIMIT_DISTANCE_M", type := (.object "java/math/BigDecimal"), accessFlags := 25, slot := 4, constantValue := 0 }, { name := "HALF_MBAR", type := (.object "java/math/BigDecimal"), accessFlags := 26, slot := 5, constantValue := 0 }, { name := "seaLevelMbar", type := (.object "java/math/BigDecimal"), accessFlags := 18, slot := 3, constantValue := 0 }, { name := "mbarPerMetre", type := (.object "java/math/BigDecimal"), accessFlags := 18, slot := 4, constantValue := 0 }, { name := "text", type := (.object "java/lang/String"), accessFlags := 18, slot := 5, constantValue := 0 }, { name := "$VALUES", type := (.array (.object "com/example/kwhconv/kwhconv/PressureRule")), accessFlags := 4122, slot := 6, constantValue := 0 }]
  methods := #[k6m0, k6m1, k6m2]
  instanceTypes := #[(.object "java/lang/String"), .int, .int, (.object "java/math/BigDecimal"), (.object "java/math/BigDecimal"), (.object "java/lang/String")]
  staticTypes := #[(.object "com/example/kwhconv/kwhconv/PressureRule"), (.object "com/example/kwhconv/kwhconv/PressureRule"), (.object "com/example/kwhconv/kwhconv/PressureRule"), (.object "com/example/kwhconv/kwhconv/Range"), (.object "java/math/BigDecimal"), (.object "java/math/BigDecimal"), (.array (.object "com/example/kwhconv/kwhconv/PressureRule"))]
  resolved := Array.replicate 302 none
  statics := some 0 }

def pool7 : Array CpInfo := pool [(2, .class_ 4), (1, u "java/lang/CharSequence"), (42, .class_ 48), (0, u "java/lang/CharSequence$1CodePointIterator"), (10, .class_ 60), (0, u "java/lang/CharSequence$1CharIterator"), (5, .class_ 67), (0, u "java/lang/Object")] 63

/-- java/lang/CharSequence -/
def k7 : Class := { plain "java/lang/CharSequence" (some 0) with
  accessFlags := 1537
  interfaces := #[]
  cf := some (fileOf pool7 2 #[.nestMembers #[47, 59]] #[] 1537 66 #[] #[])
  fields := #[]
  methods := #[]
  instanceTypes := #[]
  staticTypes := #[]
  resolved := Array.replicate 131 none
  statics := none }

def pool8 : Array CpInfo := pool [(1, .class_ 2), (0, u "java/lang/constant/ConstantDesc"), (0, .class_ 4), (0, u "java/lang/Object")] 32

/-- java/lang/constant/ConstantDesc -/
def k8 : Class := { plain "java/lang/constant/ConstantDesc" (some 0) with
  accessFlags := 1537
  interfaces := #[]
  cf := some (fileOf pool8 1 #[] #[] 1537 3 #[] #[])
  fields := #[]
  methods := #[]
  instanceTypes := #[]
  staticTypes := #[]
  resolved := Array.replicate 37 none
  statics := none }

def pool9 : Array CpInfo := pool [(1, .methodref 2 3), (0, .class_ 4), (0, .nameAndType 5 6), (0, u "java/lang/Object"), (0, u "<init>"), (0, u "()V"), (2, .fieldref 10 11), (0, .class_ 12), (0, .nameAndType 13 14), (0, u "java/lang/String"), (0, u "value"), (0, u "[B"), (0, .fieldref 10 16), (0, .nameAndType 17 18), (0, u "coder"), (0, u "B"), (2, u "hash"), (0, u "I"), (2, u "hashIsZero"), (0, u "Z"), (0, .methodref 10 28), (0, .nameAndType 5 29), (0, u "([CIILjava/lang/Void;)V"), (8, .fieldref 10 39), (0, .nameAndType 40 26), (0, u "COMPACT_STRINGS"), (1, .class_ 44), (1, u "java/lang/StringUTF16"), (0, u "compress"), (1, .methodref 42 48), (0, .nameAndType 49 50), (0, u "coderFromArrayLen"), (0, u "([BI)B"), (56, .class_ 109), (1, u "java/lang/StringLatin1"), (67, .methodref 42 178), (0, .nameAndType 45 179), (0, u "([CII)[B"), (361, .methodref 107 542), (0, .nameAndType 543 544), (0, u "equals"), (0, u "([B[B)Z"), (28, u "(Ljava/lang/Object;)Z"), (1, .class_ 576), (0, u "java/lang/CharSequence"), (22, u "CASE_INSENSITIVE_ORDER"), (0, u "Ljava/util/Comparator;"), (409, u "([C)V"), (90, u "serialPersistentFields"), (0, u "[Ljava/io/ObjectStreamField;"), (0, .class_ 1104), (0, u "java/lang/String$CaseInsensitiveComparator"), (1, .class_ 1107), (0, u "java/io/Serializable"), (0, .class_ 1109), (0, u "java/lang/Comparable"), (0, .class_ 1111), (0, u "java/lang/constant/Constable"), (0, .class_ 1113), (0, u "java/lang/constant/ConstantDesc"), (2, u "serialVersionUID"), (0, u "J"), (3, u "REPL"), (0, u "C"), (2, u "LATIN1"), (1, u "UTF16")] 323

def k9m0 : Method := { name := "<init>", desc := "()V", sig := { parameters := [], returnType := none }, accessFlags := 1, code := none }
def k9c1 : Code := { maxStack := 5, maxLocals := 2, code := jdk_42_method_3_code, exceptionTable := #[], attributes := #[] }
def k9m1 : Method := { name := "<init>", desc := "([C)V", sig := { parameters := [(.array .char)], returnType := none }, accessFlags := 1, code := some k9c1 }
def k9c2 : Code := { maxStack := 2, maxLocals := 3, code := jdk_42_method_66_code, exceptionTable := #[], attributes := #[] }
def k9m2 : Method := { name := "equals", desc := "(Ljava/lang/Object;)Z", sig := { parameters := [(.object "java/lang/Object")], returnType := some .boolean }, accessFlags := 1, code := some k9c2 }
def k9c3 : Code := { maxStack := 4, maxLocals := 6, code := jdk_42_method_149_code, exceptionTable := #[], attributes := #[] }
def k9m3 : Method := { name := "<init>", desc := "([CIILjava/lang/Void;)V", sig := { parameters := [(.array .char), .int, .int, (.object "java/lang/Void")], returnType := none }, accessFlags := 2, code := some k9c3 }
/-- java/lang/String -/
def k9 : Class := { plain "java/lang/String" (some 0) with
  accessFlags := 49
  interfaces := #[4, 3, 7, 2, 8]
  cf := some (fileOf pool9 10 #[.nestMembers #[1103]] #[{ accessFlags := 1, nameIndex := 5, descriptorIndex := 6, attributes := #[] }, { accessFlags := 1, nameIndex := 5, descriptorIndex := 1010, attributes := #[] }, { accessFlags := 1, nameIndex := 543, descriptorIndex := 573, attributes := #[] }, { accessFlags := 2, nameIndex := 5, descriptorIndex := 29, attributes := #[] }] 49 2 #[1106, 1108, 575, 1110, 1112] #[{ accessFlags := 18, nameIndex := 13, descriptorIndex := 14, attributes := #[] }, { accessFlags := 18, nameIndex := 17, descriptorIndex := 18, attributes := #[] }, { accessFlags := 2, nameIndex := 21, descriptorIndex := 22, attributes := #[] }, { accessFlags := 2, nameIndex := 25, descriptorIndex := 26, attributes := #[] }, { accessFlags := 26, nameIndex := 1116, descriptorIndex := 1117, attributes := #[] }, { accessFlags := 24, nameIndex := 40, descriptorIndex := 26, attributes := #[] }, { accessFlags := 26, nameIndex := 1101, descriptorIndex := 1102, attributes := #[] }, { accessFlags := 26, nameIndex := 1121, descriptorIndex := 1122, attributes := #[] }, { accessFlags := 25, nameIndex := 599, descriptorIndex := 600, attributes := #[] }, { accessFlags := 24, nameIndex := 1125, descriptorIndex := 18, attributes := #[] }, { accessFlags := 24, nameIndex := 1127, descriptorIndex := 18, attributes := #[] }])
  fields := #[{ name := "value", type := (.array .byte), accessFlags := 18, slot := 0, constantValue := 0 }, { name := "coder", type := .byte, accessFlags := 18, slot := 1, constantValue := 0 }, { name := "hash", type := .int, accessFlags := 2, slot := 2, constantValue := 0 }, { name := "hashIsZero", type := .boolean, accessFlags := 2, slot := 3, constantValue := 0 }, { name := "serialVersionUID", type := .long, accessFlags := 26, slot := 0, constantValue := 0 }, { name := "COMPACT_STRINGS", type := .boolean, accessFlags := 24, slot := 1, constantValue := 0 }, { name := "serialPersistentFields", type := (.array (.object "java/io/ObjectStreamField")), accessFlags := 26, slot := 2, constantValue := 0 }, { name := "REPL", type := .char, accessFlags := 26, slot := 3, constantValue := 0 }, { name := "CASE_INSENSITIVE_ORDER", type := (.object "java/util/Comparator"), accessFlags := 25, slot := 4, constantValue := 0 }, { name := "LATIN1", type := .byte, accessFlags := 24, slot := 5, constantValue := 0 }, { name := "UTF16", type := .byte, accessFlags := 24, slot := 6, constantValue := 0 }]
  methods := #[k9m0, k9m1, k9m2, k9m3]
  instanceTypes := #[(.array .byte), .byte, .int, .boolean]
  staticTypes := #[.long, .boolean, (.array (.object "java/io/ObjectStreamField")), .char, (.object "java/util/Comparator"), .byte, .byte]
  resolved := Array.replicate 1451 none
  statics := some 1 }

def pool10 : Array CpInfo := pool [(6, .class_ 8), (1, u "java/lang/Object"), (0, u "<init>"), (0, u "()V"), (1, .class_ 14), (1, u "java/lang/StringUTF16"), (31, u "$assertionsDisabled"), (0, u "Z"), (13, u "HI_BYTE_SHIFT"), (0, u "I"), (2, u "LO_BYTE_SHIFT"), (49, .methodref 12 116), (0, .nameAndType 117 118), (0, u "compress"), (0, u "([CI[BII)I"), (3, u "([CII)[B"), (138, u "coderFromArrayLen"), (0, u "([BI)B"), (106, .class_ 371), (1, u "java/lang/StringUTF16$LinesSpliterator"), (58, u "MAX_LENGTH"), (196, .class_ 628), (0, u "java/lang/StringUTF16$CodePointsSpliterator"), (0, .class_ 630), (0, u "java/lang/StringUTF16$CharsSpliterator")] 4

def k10m0 : Method := { name := "<init>", desc := "()V", sig := { parameters := [], returnType := none }, accessFlags := 0, code := none }
def k10c1 : Code := { maxStack := 2, maxLocals := 2, code := jdk_52_method_15_code, exceptionTable := #[], attributes := #[] }
def k10m1 : Method := { name := "coderFromArrayLen", desc := "([BI)B", sig := { parameters := [(.array .byte), .int], returnType := some .byte }, accessFlags := 8, code := some k10c1 }
def k10c2 : Code := { maxStack := 5, maxLocals := 6, code := jdk_52_method_16_code, exceptionTable := #[], attributes := #[] }
def k10m2 : Method := { name := "compress", desc := "([CII)[B", sig := { parameters := [(.array .char), .int, .int], returnType := some (.array .byte) }, accessFlags := 9, code := some k10c2 }
def k10c3 : Code := { maxStack := 3, maxLocals := 7, code := jdk_52_method_21_code, exceptionTable := #[], attributes := #[] }
def k10m3 : Method := { name := "compress", desc := "([CI[BII)I", sig := { parameters := [(.array .char), .int, (.array .byte), .int, .int], returnType := some .int }, accessFlags := 9, code := some k10c3 }
/-- java/lang/StringUTF16 -/
def k10 : Class := { plain "java/lang/StringUTF16" (some 0) with
  accessFlags := 48
  interfaces := #[]
  cf := some (fileOf pool10 12 #[.nestMembers #[627, 629, 369]] #[{ accessFlags := 0, nameIndex := 9, descriptorIndex := 10, attributes := #[] }, { accessFlags := 8, nameIndex := 261, descriptorIndex := 262, attributes := #[] }, { accessFlags := 9, nameIndex := 117, descriptorIndex := 122, attributes := #[] }, { accessFlags := 9, nameIndex := 117, descriptorIndex := 118, attributes := #[] }] 48 6 #[] #[{ accessFlags := 26, nameIndex := 61, descriptorIndex := 62, attributes := #[] }, { accessFlags := 26, nameIndex := 65, descriptorIndex := 62, attributes := #[] }, { accessFlags := 24, nameIndex := 430, descriptorIndex := 62, attributes := #[] }, { accessFlags := 4120, nameIndex := 46, descriptorIndex := 47, attributes := #[] }])
  fields := #[{ name := "HI_BYTE_SHIFT", type := .int, accessFlags := 26, slot := 0, constantValue := 0 }, { name := "LO_BYTE_SHIFT", type := .int, accessFlags := 26, slot := 1, constantValue := 0 }, { name := "MAX_LENGTH", type := .int, accessFlags := 24, slot := 2, constantValue := 0 }, { name := "$assertionsDisabled", type := .boolean, accessFlags := 4120, slot := 3, constantValue := 0 }]
  methods := #[k10m0, k10m1, k10m2, k10m3]
  instanceTypes := #[]
  staticTypes := #[.int, .int, .int, .boolean]
  resolved := Array.replicate 635 none
  statics := none }

def pool11 : Array CpInfo := pool [(2, .class_ 4), (1, u "java/lang/Object"), (0, u "<init>"), (0, u "()V"), (35, .class_ 44), (1, u "java/util/Objects"), (0, u "requireNonNull"), (48, u "(Ljava/lang/Object;Ljava/lang/String;)Ljava/lang/Object;")] 89

def k11m0 : Method := { name := "<init>", desc := "()V", sig := { parameters := [], returnType := none }, accessFlags := 2, code := none }
def k11c1 : Code := { maxStack := 3, maxLocals := 2, code := jdk_31_method_11_code, exceptionTable := #[], attributes := #[] }
def k11m1 : Method := { name := "requireNonNull", desc := "(Ljava/lang/Object;Ljava/lang/String;)Ljava/lang/Object;", sig := { parameters := [(.object "java/lang/Object"), (.object "java/lang/String")], returnType := some (.object "java/lang/Object") }, accessFlags := 9, code := some k11c1 }
/-- java/util/Objects -/
def k11 : Class := { plain "java/util/Objects" (some 0) with
  accessFlags := 49
  interfaces := #[]
  cf := some (fileOf pool11 42 #[] #[{ accessFlags := 2, nameIndex := 5, descriptorIndex := 6, attributes := #[] }, { accessFlags := 9, nameIndex := 45, descriptorIndex := 94, attributes := #[] }] 49 2 #[] #[])
  fields := #[]
  methods := #[k11m0, k11m1]
  instanceTypes := #[]
  staticTypes := #[]
  resolved := Array.replicate 184 none
  statics := none }

def pool12 : Array CpInfo := pool [(1, .class_ 2), (0, u "java/lang/Cloneable"), (0, .class_ 4), (0, u "java/lang/Object")] 2

/-- java/lang/Cloneable -/
def k12 : Class := { plain "java/lang/Cloneable" (some 0) with
  accessFlags := 1537
  interfaces := #[]
  cf := some (fileOf pool12 1 #[] #[] 1537 3 #[] #[])
  fields := #[]
  methods := #[]
  instanceTypes := #[]
  staticTypes := #[]
  resolved := Array.replicate 7 none
  statics := none }

def pool13 : Array CpInfo := pool [(4, .class_ 6), (1, u "java/lang/Object"), (0, u "<init>"), (0, u "()V"), (5, .class_ 16), (1, u "java/lang/StringLatin1"), (104, u "$assertionsDisabled"), (0, u "Z"), (98, .class_ 223), (1, u "java/lang/StringLatin1$LinesSpliterator"), (57, u "equals"), (0, u "([B[B)Z"), (107, .class_ 391), (0, u "java/lang/StringLatin1$CharsSpliterator")] 3

def k13m0 : Method := { name := "<init>", desc := "()V", sig := { parameters := [], returnType := none }, accessFlags := 0, code := none }
def k13c1 : Code := { maxStack := 3, maxLocals := 3, code := jdk_43_method_13_code, exceptionTable := #[], attributes := #[] }
def k13m1 : Method := { name := "equals", desc := "([B[B)Z", sig := { parameters := [(.array .byte), (.array .byte)], returnType := some .boolean }, accessFlags := 9, code := some k13c1 }
/-- java/lang/StringLatin1 -/
def k13 : Class := { plain "java/lang/StringLatin1" (some 0) with
  accessFlags := 48
  interfaces := #[]
  cf := some (fileOf pool13 14 #[.nestMembers #[390, 221]] #[{ accessFlags := 0, nameIndex := 7, descriptorIndex := 8, attributes := #[] }, { accessFlags := 9, nameIndex := 281, descriptorIndex := 282, attributes := #[] }] 48 4 #[] #[{ accessFlags := 4120, nameIndex := 121, descriptorIndex := 122, attributes := #[] }])
  fields := #[{ name := "$assertionsDisabled", type := .boolean, accessFlags := 4120, slot := 0, constantValue := 0 }]
  methods := #[k13m0, k13m1]
  instanceTypes := #[]
  staticTypes := #[.boolean]
  resolved := Array.replicate 395 none
  statics := none }

def pool14 : Array CpInfo := pool [(2, .class_ 4), (1, u "java/lang/Object"), (0, u "<init>"), (0, u "()V"), (17, .class_ 26), (1, u "jdk/internal/util/Preconditions"), (28, .class_ 56), (0, u "jdk/internal/util/Preconditions$4"), (57, .class_ 115), (0, u "jdk/internal/util/Preconditions$1"), (7, u "SIOOBE_FORMATTER"), (0, u "Ljava/util/function/BiFunction;"), (0, .class_ 126), (0, u "jdk/internal/util/Preconditions$2"), (3, u "AIOOBE_FORMATTER"), (0, .class_ 132), (0, u "jdk/internal/util/Preconditions$3"), (3, u "IOOBE_FORMATTER")] 57

def k14m0 : Method := { name := "<init>", desc := "()V", sig := { parameters := [], returnType := none }, accessFlags := 1, code := none }
/-- jdk/internal/util/Preconditions -/
def k14 : Class := { plain "jdk/internal/util/Preconditions" (some 0) with
  accessFlags := 33
  interfaces := #[]
  cf := some (fileOf pool14 24 #[.nestMembers #[55, 131, 125, 114]] #[{ accessFlags := 1, nameIndex := 5, descriptorIndex := 6, attributes := #[] }] 33 2 #[] #[{ accessFlags := 25, nameIndex := 123, descriptorIndex := 124, attributes := #[] }, { accessFlags := 25, nameIndex := 130, descriptorIndex := 124, attributes := #[] }, { accessFlags := 25, nameIndex := 136, descriptorIndex := 124, attributes := #[] }])
  fields := #[{ name := "SIOOBE_FORMATTER", type := (.object "java/util/function/BiFunction"), accessFlags := 25, slot := 0, constantValue := 0 }, { name := "AIOOBE_FORMATTER", type := (.object "java/util/function/BiFunction"), accessFlags := 25, slot := 1, constantValue := 0 }, { name := "IOOBE_FORMATTER", type := (.object "java/util/function/BiFunction"), accessFlags := 25, slot := 2, constantValue := 0 }]
  methods := #[k14m0]
  instanceTypes := #[]
  staticTypes := #[(.object "java/util/function/BiFunction"), (.object "java/util/function/BiFunction"), (.object "java/util/function/BiFunction")]
  resolved := Array.replicate 194 none
  statics := some 2 }

def pool15 : Array CpInfo := pool [(9, u "<init>"), (6, .class_ 18), (1, u "java/lang/Object"), (0, u "()V"), (1, .class_ 23), (1, u "jdk/internal/util/ArraysSupport"), (0, u "LOG2_ARRAY_LONG_INDEX_SCALE"), (0, u "I"), (2, u "U"), (0, u "Ljdk/internal/misc/Unsafe;"), (8, u "BIG_ENDIAN"), (0, u "Z"), (8, u "LOG2_BYTE_BIT_SIZE"), (4, u "LOG2_ARRAY_INT_INDEX_SCALE"), (54, u "JLA"), (0, u "Ljdk/internal/access/JavaLangAccess;"), (11, u "LOG2_ARRAY_BOOLEAN_INDEX_SCALE"), (9, u "LOG2_ARRAY_BYTE_INDEX_SCALE"), (5, u "LOG2_ARRAY_CHAR_INDEX_SCALE"), (5, u "LOG2_ARRAY_SHORT_INDEX_SCALE"), (18, u "LOG2_ARRAY_FLOAT_INDEX_SCALE"), (24, u "LOG2_ARRAY_DOUBLE_INDEX_SCALE"), (89, u "T_BOOLEAN"), (2, u "T_CHAR"), (1, u "T_FLOAT"), (1, u "T_DOUBLE"), (1, u "T_BYTE"), (1, u "T_SHORT"), (1, u "T_INT"), (1, u "T_LONG"), (1, u "SOFT_MAX_ARRAY_LENGTH")] 83

def k15m0 : Method := { name := "<init>", desc := "()V", sig := { parameters := [], returnType := none }, accessFlags := 2, code := none }
/-- jdk/internal/util/ArraysSupport -/
def k15 : Class := { plain "jdk/internal/util/ArraysSupport" (some 0) with
  accessFlags := 33
  interfaces := #[]
  cf := some (fileOf pool15 21 #[] #[{ accessFlags := 2, nameIndex := 9, descriptorIndex := 19, attributes := #[] }] 33 16 #[] #[{ accessFlags := 24, nameIndex := 28, descriptorIndex := 29, attributes := #[] }, { accessFlags := 26, nameIndex := 38, descriptorIndex := 39, attributes := #[] }, { accessFlags := 25, nameIndex := 121, descriptorIndex := 25, attributes := #[] }, { accessFlags := 25, nameIndex := 131, descriptorIndex := 25, attributes := #[] }, { accessFlags := 25, nameIndex := 137, descriptorIndex := 25, attributes := #[] }, { accessFlags := 25, nameIndex := 143, descriptorIndex := 25, attributes := #[] }, { accessFlags := 25, nameIndex := 53, descriptorIndex := 25, attributes := #[] }, { accessFlags := 25, nameIndex := 24, descriptorIndex := 25, attributes := #[] }, { accessFlags := 25, nameIndex := 162, descriptorIndex := 25, attributes := #[] }, { accessFlags := 25, nameIndex := 187, descriptorIndex := 25, attributes := #[] }, { accessFlags := 26, nameIndex := 48, descriptorIndex := 25, attributes := #[] }, { accessFlags := 25, nameIndex := 277, descriptorIndex := 25, attributes := #[] }, { accessFlags := 25, nameIndex := 280, descriptorIndex := 25, attributes := #[] }, { accessFlags := 25, nameIndex := 282, descriptorIndex := 25, attributes := #[] }, { accessFlags := 25, nameIndex := 284, descriptorIndex := 25, attributes := #[] }, { accessFlags := 25, nameIndex := 286, descriptorIndex := 25, attributes := #[] }, { accessFlags := 25, nameIndex := 288, descriptorIndex := 25, attributes := #[] }, { accessFlags := 25, nameIndex := 290, descriptorIndex := 25, attributes := #[] }, { accessFlags := 25, nameIndex := 292, descriptorIndex := 25, attributes := #[] }, { accessFlags := 26, nameIndex := 108, descriptorIndex := 109, attributes := #[] }, { accessFlags := 25, nameIndex := 294, descriptorIndex := 25, attributes := #[] }])
  fields := #[{ name := "U", type := (.object "jdk/internal/misc/Unsafe"), accessFlags := 24, slot := 0, constantValue := 0 }, { name := "BIG_ENDIAN", type := .boolean, accessFlags := 26, slot := 1, constantValue := 0 }, { name := "LOG2_ARRAY_BOOLEAN_INDEX_SCALE", type := .int, accessFlags := 25, slot := 2, constantValue := 0 }, { name := "LOG2_ARRAY_BYTE_INDEX_SCALE", type := .int, accessFlags := 25, slot := 3, constantValue := 0 }, { name := "LOG2_ARRAY_CHAR_INDEX_SCALE", type := .int, accessFlags := 25, slot := 4, constantValue := 0 }, { name := "LOG2_ARRAY_SHORT_INDEX_SCALE", type := .int, accessFlags := 25, slot := 5, constantValue := 0 }, { name := "LOG2_ARRAY_INT_INDEX_SCALE", type := .int, accessFlags := 25, slot := 6, constantValue := 0 }, { name := "LOG2_ARRAY_LONG_INDEX_SCALE", type := .int, accessFlags := 25, slot := 7, constantValue := 0 }, { name := "LOG2_ARRAY_FLOAT_INDEX_SCALE", type := .int, accessFlags := 25, slot := 8, constantValue := 0 }, { name := "LOG2_ARRAY_DOUBLE_INDEX_SCALE", type := .int, accessFlags := 25, slot := 9, constantValue := 0 }, { name := "LOG2_BYTE_BIT_SIZE", type := .int, accessFlags := 26, slot := 10, constantValue := 0 }, { name := "T_BOOLEAN", type := .int, accessFlags := 25, slot := 11, constantValue := 0 }, { name := "T_CHAR", type := .int, accessFlags := 25, slot := 12, constantValue := 0 }, { name := "T_FLOAT", type := .int, accessFlags := 25, slot := 13, constantValue := 0 }, { name := "T_DOUBLE", type := .int, accessFlags := 25, slot := 14, constantValue := 0 }, { name := "T_BYTE", type := .int, accessFlags := 25, slot := 15, constantValue := 0 }, { name := "T_SHORT", type := .int, accessFlags := 25, slot := 16, constantValue := 0 }, { name := "T_INT", type := .int, accessFlags := 25, slot := 17, constantValue := 0 }, { name := "T_LONG", type := .int, accessFlags := 25, slot := 18, constantValue := 0 }, { name := "JLA", type := (.object "jdk/internal/access/JavaLangAccess"), accessFlags := 26, slot := 19, constantValue := 0 }, { name := "SOFT_MAX_ARRAY_LENGTH", type := .int, accessFlags := 25, slot := 20, constantValue := 0 }]
  methods := #[k15m0]
  instanceTypes := #[]
  staticTypes := #[(.object "jdk/internal/misc/Unsafe"), .boolean, .int, .int, .int, .int, .int, .int, .int, .int, .int, .int, .int, .int, .int, .int, .int, .int, .int, (.object "jdk/internal/access/JavaLangAccess"), .int]
  resolved := Array.replicate 378 none
  statics := none }

/-- the primitive byte -/
def k16 : Class := { plain "byte" none with kind := .primitive 'B', accessFlags := 0x411 }
/-- [B -/
def k17 : Class := { plain "[B" (some 0) with kind := .array 16 .byte, interfaces := #[12, 4], accessFlags := 1041 }

/-- the primitive char -/
def k18 : Class := { plain "char" none with kind := .primitive 'C', accessFlags := 0x411 }
/-- [C -/
def k19 : Class := { plain "[C" (some 0) with kind := .array 18 .char, interfaces := #[12, 4], accessFlags := 1041 }

/-- the primitive int -/
def k20 : Class := { plain "int" none with kind := .primitive 'I', accessFlags := 0x411 }
/-- [I -/
def k21 : Class := { plain "[I" (some 0) with kind := .array 20 .int, interfaces := #[12, 4], accessFlags := 1041 }

/-- [Lcom/example/kwhconv/kwhconv/PressureRule; -/
def k22 : Class := { plain "[Lcom/example/kwhconv/kwhconv/PressureRule;" (some 0) with kind := .array 6 (.object "com/example/kwhconv/kwhconv/PressureRule"), interfaces := #[12, 4], accessFlags := 1041 }

def heap : Heap := #[{ cls := 6, slots := #[.ref 4, .ref 5, .null, .null, .null, .null, .ref 3], vm := .statics 6 },
  { cls := 9, slots := #[.long 0, .int 1, .null, .int 0, .null, .int 0, .int 0], vm := .statics 9 },
  { cls := 14, slots := #[.null, .null, .null], vm := .statics 14 },
  { cls := 22, slots := #[.ref 4, .ref 5], vm := .none },
  { cls := 6, slots := #[.null, .int 0, .int 0, .null, .null, .ref 6], vm := .none },
  { cls := 6, slots := #[.null, .int 1, .int 0, .null, .null, .ref 7], vm := .none },
  { cls := 9, slots := #[.ref 8, .int 0, .int 0, .int 0], vm := .none },
  { cls := 9, slots := #[.ref 9, .int 0, .int 0, .int 0], vm := .none },
  { cls := 17, slots := #[.int 49, .int 48, .int 49, .int 54, .int 45, .int 48, .int 46, .int 49, .int 50], vm := .none },
  { cls := 17, slots := #[.int 49, .int 48, .int 49, .int 52, .int 46, .int 56, .int 45, .int 48, .int 46, .int 49, .int 49, .int 52], vm := .none }]
def classes : Array Class := #[k0, k1, k2, k3, k4, k5, k6, k7, k8, k9, k10, k11, k12, k13, k14, k15, k16, k17, k18, k19, k20, k21, k22]
def interned : List (Array UInt16 × Addr) := []
def slotsUsed : Nat := 60
def theMethod : MethodId := ⟨1, 1⟩
def args0 : Array Value := #[.int 1]
def aboutOver (below : List Frame) : State where
  vm := { classes := classes, interned := interned.toArray }
  heap := heap
  slotsUsed := slotsUsed
  threads := #[{ frames := .invoking theMethod args0 :: below }]
def below0 : List Frame := [.native { method := ⟨0, 0⟩, args := #[] }]
def about1 : State := aboutOver below0
def p0 : Program := .bare "" "" ""
def e0 : Env := launch0.env 0 0 0
theorem w_frames : about1.frames = Frame.invoking theMethod args0 :: below0 := rfl
set_option maxRecDepth 65536 in
theorem w_args : argsFit about1.vm theMethod args0 = true := by decide +kernel
set_option maxRecDepth 65536 in
theorem w_heap : heapFits about1 = true := by decide +kernel
set_option maxRecDepth 65536 in
theorem w_runnable : about1.curStatus? = some .runnable := by decide +kernel
set_option maxRecDepth 65536 in
theorem w_alone : about1.alone = true := by decide +kernel
set_option maxRecDepth 65536 in
theorem w_named : about1.methodNamed? x = some theMethod := by decide +kernel
set_option maxRecDepth 65536 in
theorem w_hears : about1.hears theMethod below0 = true := by decide +kernel
set_option maxRecDepth 65536 in
theorem w_ripe : about1.ripe theMethod args0 below0 = true := by decide +kernel
theorem w_running : about1.status = .running := rfl
set_option maxRecDepth 65536 in
theorem w_room : about1.hasRoom e0.platform room_1 = true :=
  launch0.hasRoom_least _ room_1 (by decide +kernel) (by decide +kernel) (by decide +kernel) (by decide +kernel) (by decide +kernel) (by decide +kernel)
theorem allAtoms_all (ts : List Jvm.Cond) (a : Array Jvm.Value) (st : Jvm.State) : (allAtoms ts).before a st = ts.all (fun c => c.before a st) := by
  induction ts with
  | nil => rfl
  | cons c t ih =>
    show (Jvm.Cond.and c (allAtoms t)).before a st = _
    rw [Jvm.Cond.before_and, ih, List.all_cons]
def words1 : List Jvm.Cond := Jvm.Cond.code x code maxLocals ret :: tables_1
/-- a 'code' word, met by the world's own term for the bytes: nothing is compared byte by byte -/
theorem code_word {y : MethodName} {bytes : ByteArray} {mx : Nat} {rt : Option FieldType} {a : Array Value} {s : State} {m : MethodId} {meth : Method} {c : Code} (h1 : s.methodNamed? y = some m) (h2 : s.vm.method? m = some meth) (h3 : meth.code = some c) (h4 : c.code = bytes)
    (h5 : (c.maxLocals == mx && c.exceptionTable.isEmpty && decide (c.maxStack ≤ mostOperands) && decide (meth.sig.returnType = rt) && !meth.locks && decide (parseMethodDescriptor y.desc = some meth.sig)) = true) : (Jvm.Cond.code y bytes mx rt).before a s = true := by
  simp only [Bool.and_eq_true, beq_iff_eq, Bool.not_eq_true', decide_eq_true_eq] at h5
  obtain ⟨⟨⟨⟨⟨g1, g2⟩, g3⟩, g4⟩, g5⟩, g6⟩ := h5
  simp [Cond.before, Cond.holds, Cond.value, h1, h2, h3, h4, g1, g2, g3, g4, g5, g6]
def isCode : Jvm.Cond → Bool
  | .code _ _ _ _ => true
  | _ => false
theorem all_split {L : List Jvm.Cond} {P : Jvm.Cond → Bool} (h1 : L.all (fun c => isCode c || P c) = true) (h2 : ∀ c ∈ L.filter isCode, P c = true) : L.all P = true := by
  refine List.all_eq_true.mpr fun c hc => ?_
  have h := List.all_eq_true.mp h1 c hc
  rcases Bool.eq_false_or_eq_true (isCode c) with hi | hi
  · exact h2 c (List.mem_filter.mpr ⟨hc, hi⟩)
  · simpa [hi] using h
set_option maxRecDepth 65536 in
theorem w_c0 : (Jvm.Cond.code x code maxLocals ret).before args0 about1 = true := code_word (m := ⟨1, 1⟩) (meth := k1m1) (c := k1c1) (by decide +kernel) rfl rfl rfl (by decide +kernel)
set_option maxRecDepth 65536 in
theorem w_c1 : (Jvm.Cond.code ({ cls := "java/lang/String", name := "<init>", desc := "([C)V" } : Jvm.MethodName) jdk_42_method_3_code (2 : Nat) (Option.none : Option Jvm.ClassFile.FieldType)).before args0 about1 = true := code_word (m := ⟨9, 1⟩) (meth := k9m1) (c := k9c1) (by decide +kernel) rfl rfl rfl (by decide +kernel)
set_option maxRecDepth 65536 in
theorem w_c2 : (Jvm.Cond.code ({ cls := "java/lang/String", name := "<init>", desc := "([CIILjava/lang/Void;)V" } : Jvm.MethodName) jdk_42_method_149_code (6 : Nat) (Option.none : Option Jvm.ClassFile.FieldType)).before args0 about1 = true := code_word (m := ⟨9, 3⟩) (meth := k9m3) (c := k9c3) (by decide +kernel) rfl rfl rfl (by decide +kernel)
set_option maxRecDepth 65536 in
theorem w_c3 : (Jvm.Cond.code ({ cls := "java/lang/Object", name := "<init>", desc := "()V" } : Jvm.MethodName) object_method_1_code (1 : Nat) (Option.none : Option Jvm.ClassFile.FieldType)).before args0 about1 = true := code_word (m := ⟨0, 0⟩) (meth := k0m0) (c := k0c0) (by decide +kernel) rfl rfl rfl (by decide +kernel)
set_option maxRecDepth 65536 in
theorem w_c4 : (Jvm.Cond.code ({ cls := "java/lang/StringUTF16", name := "compress", desc := "([CII)[B" } : Jvm.MethodName) jdk_52_method_16_code (6 : Nat) (Option.some (Jvm.ClassFile.FieldType.array Jvm.ClassFile.FieldType.byte))).before args0 about1 = true := code_word (m := ⟨10, 2⟩) (meth := k10m2) (c := k10c2) (by decide +kernel) rfl rfl rfl (by decide +kernel)
set_option maxRecDepth 65536 in
theorem w_c5 : (Jvm.Cond.code ({ cls := "java/lang/StringUTF16", name := "compress", desc := "([CI[BII)I" } : Jvm.MethodName) jdk_52_method_21_code (7 : Nat) (Option.some Jvm.ClassFile.FieldType.int)).before args0 about1 = true := code_word (m := ⟨10, 3⟩) (meth := k10m3) (c := k10c3) (by decide +kernel) rfl rfl rfl (by decide +kernel)
set_option maxRecDepth 65536 in
theorem w_c6 : (Jvm.Cond.code ({ cls := "java/lang/StringUTF16", name := "coderFromArrayLen", desc := "([BI)B" } : Jvm.MethodName) jdk_52_method_15_code (2 : Nat) (Option.some Jvm.ClassFile.FieldType.byte)).before args0 about1 = true := code_word (m := ⟨10, 1⟩) (meth := k10m1) (c := k10c1) (by decide +kernel) rfl rfl rfl (by decide +kernel)
set_option maxRecDepth 65536 in
theorem w_c7 : (Jvm.Cond.code ({ cls := "com/example/kwhconv/kwhconv/PressureRule", name := "of", desc := "(Ljava/lang/String;)Lcom/example/kwhconv/kwhconv/PressureRule;" } : Jvm.MethodName) prog_16_method_4_code (5 : Nat) (Option.some (Jvm.ClassFile.FieldType.object "com/example/kwhconv/kwhconv/PressureRule"))).before args0 about1 = true := code_word (m := ⟨6, 1⟩) (meth := k6m1) (c := k6c1) (by decide +kernel) rfl rfl rfl (by decide +kernel)
set_option maxRecDepth 65536 in
theorem w_c8 : (Jvm.Cond.code ({ cls := "java/util/Objects", name := "requireNonNull", desc := "(Ljava/lang/Object;Ljava/lang/String;)Ljava/lang/Object;" } : Jvm.MethodName) jdk_31_method_11_code (2 : Nat) (Option.some (Jvm.ClassFile.FieldType.object "java/lang/Object"))).before args0 about1 = true := code_word (m := ⟨11, 1⟩) (meth := k11m1) (c := k11c1) (by decide +kernel) rfl rfl rfl (by decide +kernel)
set_option maxRecDepth 65536 in
theorem w_c9 : (Jvm.Cond.code ({ cls := "com/example/kwhconv/kwhconv/PressureRule", name := "values", desc := "()[Lcom/example/kwhconv/kwhconv/PressureRule;" } : Jvm.MethodName) prog_16_method_1_code (0 : Nat) (Option.some (Jvm.ClassFile.FieldType.array (Jvm.ClassFile.FieldType.object "com/example/kwhconv/kwhconv/PressureRule")))).before args0 about1 = true := code_word (m := ⟨6, 0⟩) (meth := k6m0) (c := k6c0) (by decide +kernel) rfl rfl rfl (by decide +kernel)
set_option maxRecDepth 65536 in
theorem w_c10 : (Jvm.Cond.code ({ cls := "java/lang/String", name := "equals", desc := "(Ljava/lang/Object;)Z" } : Jvm.MethodName) jdk_42_method_66_code (3 : Nat) (Option.some Jvm.ClassFile.FieldType.boolean)).before args0 about1 = true := code_word (m := ⟨9, 2⟩) (meth := k9m2) (c := k9c2) (by decide +kernel) rfl rfl rfl (by decide +kernel)
set_option maxRecDepth 65536 in
theorem w_c11 : (Jvm.Cond.code ({ cls := "java/lang/StringLatin1", name := "equals", desc := "([B[B)Z" } : Jvm.MethodName) jdk_43_method_13_code (3 : Nat) (Option.some Jvm.ClassFile.FieldType.boolean)).before args0 about1 = true := code_word (m := ⟨13, 1⟩) (meth := k13m1) (c := k13c1) (by decide +kernel) rfl rfl rfl (by decide +kernel)
set_option maxRecDepth 65536 in
theorem w_c12 : (Jvm.Cond.code ({ cls := "com/example/kwhconv/kwhconv/PressureRule", name := "toString", desc := "()Ljava/lang/String;" } : Jvm.MethodName) prog_16_method_13_code (1 : Nat) (Option.some (Jvm.ClassFile.FieldType.object "java/lang/String"))).before args0 about1 = true := code_word (m := ⟨6, 2⟩) (meth := k6m2) (c := k6c2) (by decide +kernel) rfl rfl rfl (by decide +kernel)
def codes1 : List Jvm.Cond := [Jvm.Cond.code x code maxLocals ret, Jvm.Cond.code ({ cls := "java/lang/String", name := "<init>", desc := "([C)V" } : Jvm.MethodName) jdk_42_method_3_code (2 : Nat) (Option.none : Option Jvm.ClassFile.FieldType), Jvm.Cond.code ({ cls := "java/lang/String", name := "<init>", desc := "([CIILjava/lang/Void;)V" } : Jvm.MethodName) jdk_42_method_149_code (6 : Nat) (Option.none : Option Jvm.ClassFile.FieldType), Jvm.Cond.code ({ cls := "java/lang/Object", name := "<init>", desc := "()V" } : Jvm.MethodName) object_method_1_code (1 : Nat) (Option.none : Option Jvm.ClassFile.FieldType), Jvm.Cond.code ({ cls := "java/lang/StringUTF16", name := "compress", desc := "([CII)[B" } : Jvm.MethodName) jdk_52_method_16_code (6 : Nat) (Option.some (Jvm.ClassFile.FieldType.array Jvm.ClassFile.FieldType.byte)), Jvm.Cond.code ({ cls := "java/lang/StringUTF16", name := "compress", desc := "([CI[BII)I" } : Jvm.MethodName) jdk_52_method_21_code (7 : Nat) (Option.some Jvm.ClassFile.FieldType.int), Jvm.Cond.code ({ cls := "java/lang/StringUTF16", name := "coderFromArrayLen", desc := "([BI)B" } : Jvm.MethodName) jdk_52_method_15_code (2 : Nat) (Option.some Jvm.ClassFile.FieldType.byte), Jvm.Cond.code ({ cls := "com/example/kwhconv/kwhconv/PressureRule", name := "of", desc := "(Ljava/lang/String;)Lcom/example/kwhconv/kwhconv/PressureRule;" } : Jvm.MethodName) prog_16_method_4_code (5 : Nat) (Option.some (Jvm.ClassFile.FieldType.object "com/example/kwhconv/kwhconv/PressureRule")), Jvm.Cond.code ({ cls := "java/util/Objects", name := "requireNonNull", desc := "(Ljava/lang/Object;Ljava/lang/String;)Ljava/lang/Object;" } : Jvm.MethodName) jdk_31_method_11_code (2 : Nat) (Option.some (Jvm.ClassFile.FieldType.object "java/lang/Object")), Jvm.Cond.code ({ cls := "com/example/kwhconv/kwhconv/PressureRule", name := "values", desc := "()[Lcom/example/kwhconv/kwhconv/PressureRule;" } : Jvm.MethodName) prog_16_method_1_code (0 : Nat) (Option.some (Jvm.ClassFile.FieldType.array (Jvm.ClassFile.FieldType.object "com/example/kwhconv/kwhconv/PressureRule"))), Jvm.Cond.code ({ cls := "java/lang/String", name := "equals", desc := "(Ljava/lang/Object;)Z" } : Jvm.MethodName) jdk_42_method_66_code (3 : Nat) (Option.some Jvm.ClassFile.FieldType.boolean), Jvm.Cond.code ({ cls := "java/lang/StringLatin1", name := "equals", desc := "([B[B)Z" } : Jvm.MethodName) jdk_43_method_13_code (3 : Nat) (Option.some Jvm.ClassFile.FieldType.boolean), Jvm.Cond.code ({ cls := "com/example/kwhconv/kwhconv/PressureRule", name := "toString", desc := "()Ljava/lang/String;" } : Jvm.MethodName) prog_16_method_13_code (1 : Nat) (Option.some (Jvm.ClassFile.FieldType.object "java/lang/String"))]
set_option maxRecDepth 65536 in
theorem codes_eq : words1.filter isCode = codes1 := rfl
theorem w_codes : ∀ c ∈ words1.filter isCode, c.before args0 about1 = true := by
  rw [codes_eq]
  intro c hc
  simp only [codes1, List.mem_cons, List.not_mem_nil, or_false] at hc
  rcases hc with rfl | rfl | rfl | rfl | rfl | rfl | rfl | rfl | rfl | rfl | rfl | rfl | rfl
  · exact w_c0
  · exact w_c1
  · exact w_c2
  · exact w_c3
  · exact w_c4
  · exact w_c5
  · exact w_c6
  · exact w_c7
  · exact w_c8
  · exact w_c9
  · exact w_c10
  · exact w_c11
  · exact w_c12
set_option maxRecDepth 65536 in
theorem w_t1 : (words1.take 24).all (fun c => isCode c || c.before args0 about1) = true := by decide +kernel
set_option maxRecDepth 65536 in
theorem w_t2 : ((words1.drop 24).take 24).all (fun c => isCode c || c.before args0 about1) = true := by decide +kernel
set_option maxRecDepth 65536 in
theorem w_t3 : (((words1.drop 24).drop 24).take 24).all (fun c => isCode c || c.before args0 about1) = true := by decide +kernel
set_option maxRecDepth 65536 in
theorem w_t4 : (((words1.drop 24).drop 24).drop 24).all (fun c => isCode c || c.before args0 about1) = true := by decide +kernel
theorem w_tables : (allAtoms (Jvm.Cond.code x code maxLocals ret :: tables_1)).before args0 about1 = true := by
  rw [allAtoms_all]
  show words1.all (fun c => c.before args0 about1) = true
  refine all_split ?_ w_codes
  rw [← List.take_append_drop 24 words1, List.all_append, w_t1, ← List.take_append_drop 24 (words1.drop 24), List.all_append, w_t2, ← List.take_append_drop 24 ((words1.drop 24).drop 24), List.all_append, w_t3, w_t4]
  rfl
set_option maxRecDepth 65536 in
theorem w_rest : rest_1_c.before args0 about1 = true := by decide +kernel
set_option maxRecDepth 65536 in
theorem w_case : (Jvm.Cond.and given_1 narrow_1).before args0 about1 = true := by decide +kernel
theorem w_applies : (headSpec (Jvm.Cond.code x code maxLocals ret :: tables_1) room_1).applies x e0.platform about1 = true :=
  (Spec.applies_iff w_frames).mpr ⟨w_running, w_runnable, w_alone, w_named, w_hears, w_ripe, w_room, w_tables⟩
theorem atStart : AtStart classFile x code maxLocals ret World_1 tables_1 room_1 Calls_1 rest_1 Pre_1 launch0 p0 e0 about1 theMethod args0 below0 :=
  ⟨lists_1, trivial, launch0.admits_env _ _ _, launch0.least_env, fairChoices_fair.cas, fairChoices_fair.clock, w_frames, w_args, w_heap, w_applies, trivial, w_rest, w_case⟩
end start1
theorem witness_1 : WitnessClaimed_1 := ⟨start1.p0, start1.e0, start1.about1, start1.theMethod, start1.args0, start1.below0, start1.atStart⟩
end Jvm.Pilot.@@N@@
