import JvmDerived
import JvmDerived.Pilot.@@N@@Statement
import JvmDerived.Pilot.@@N@@Code
set_option linter.unusedVariables false
set_option linter.unusedSimpArgs false
/- laws to paste: Road.backV (cut by pick.py; bodies as the Statement names them) -/
namespace Jvm.Pilot.@@N@@
namespace StrChars
open Jvm Sem ClassFile Op Lib Jvm.Stand Jvm.Free.XT Jvm.Free.ALB Jvm.Free.JM Jvm.Free
open Jvm.Lib.Cold (StaticIs)
/-- a char array whose places are chars -/
def Ch (a : Addr) (A : Cell) (U : State) : Prop := Arr .char a A U ∧ Typed .char A
theorem Ch.mv {a : Addr} {A : Cell} {U U' : State} (h : Ch a A U) (hal : U.vm.Alike U'.vm) (hh : U'.heap = U.heap) : Ch a A U' := ⟨h.1.mv hal hh, h.2⟩
theorem Ch.keep {a : Addr} {A : Cell} {U U' : State} (h : Ch a A U) (hal : U.vm.Alike U'.vm) (hk : U'.heap[a]? = some A) : Ch a A U' := ⟨h.1.keep hal hk, h.2⟩
/-- what place i of a char[]'s cell holds -/
def cv (A : Cell) (i : Nat) : Int32 := match A.slots[i]? with | some (.int x) => x | _ => 0
theorem Ch.get {a : Addr} {A : Cell} {U : State} (h : Ch a A U) {i : Nat} (hi : i < A.slots.size) : A.slots[i]? = some (.int (cv A i)) := by
  have e := Array.getElem?_eq_getElem hi
  have f := h.2 i _ e
  unfold cv; rw [e]
  generalize A.slots[i] = v at f
  cases v <;> simp [fits] at f ⊢
/-- the byte that i2b leaves of a char -/
def lo8 (x : Int32) : Int32 := x.toInt8.toInt32
theorem fits_lo8 (y : Int32) : fits .byte (.int (lo8 y)) = true := by
  have h1 := y.toInt8.le_toInt
  have h2 := y.toInt8.toInt_lt
  simp only [lo8, fits, Bool.and_eq_true, decide_eq_true_eq, Int32.le_iff_toInt_le, Int8.toInt_toInt32, show (-128 : Int32).toInt = -128 from by decide, show (127 : Int32).toInt = 127 from by decide]
  omega
/-- A' is A but that each place j of lo .. hi - 1 holds f j -/
def Laid (A A' : Cell) (lo hi : Nat) (f : Nat → Value) : Prop := A'.cls = A.cls ∧ A'.vm = A.vm ∧ A'.slots.size = A.slots.size ∧ ∀ i, A'.slots[i]? = if lo ≤ i ∧ i < hi then some (f i) else A.slots[i]?
theorem Laid.zero (A : Cell) (lo : Nat) (f : Nat → Value) : Laid A A lo (lo + 0) f := ⟨rfl, rfl, rfl, fun i => by rw [if_neg (by omega)]⟩
theorem Laid.step {A Ak : Cell} {lo k : Nat} {f : Nat → Value} {v : Value} (h : Laid A Ak lo k f) (hlo : lo ≤ k) (hk : k < Ak.slots.size) (hv : v = f k) : Laid A (Ak.setSlot k v) lo (k + 1) f := by
  refine ⟨h.1, h.2.1, by simpa [Cell.setSlot] using h.2.2.1, fun i => ?_⟩
  by_cases e : k = i
  · subst e; rw [Cell.slots_setSlot_self v hk, if_pos (by omega), hv]
  · rw [Cell.slots_setSlot_ne v e, h.2.2.2 i]
    by_cases q : lo ≤ i ∧ i < k
    · rw [if_pos q, if_pos (by omega)]
    · rw [if_neg q, if_neg (by omega)]
def U16 : String := "java/lang/StringUTF16"
namespace Cmp5
def yN : MethodName := ⟨"java/lang/StringUTF16", "compress", "([CI[BII)I"⟩
abbrev yB : ByteArray := jdk_52_method_21_code
theorem d0 : decode yB 0 = .ok (.iconst 0, 1) := by decide +kernel
theorem d1 : decode yB 1 = .ok (.istore 5, 2) := by decide +kernel
theorem d3 : decode yB 3 = .ok (.iload 5, 2) := by decide +kernel
theorem d5 : decode yB 5 = .ok (.iload 4, 2) := by decide +kernel
theorem d7 : decode yB 7 = .ok (.if_icmp (.ge) 37, 3) := by decide +kernel
theorem d10 : decode yB 10 = .ok (.aload_n 0, 1) := by decide +kernel
theorem d11 : decode yB 11 = .ok (.iload_n 1, 1) := by decide +kernel
theorem d12 : decode yB 12 = .ok (.caload, 1) := by decide +kernel
theorem d13 : decode yB 13 = .ok (.istore 6, 2) := by decide +kernel
theorem d15 : decode yB 15 = .ok (.iload 6, 2) := by decide +kernel
theorem d17 : decode yB 17 = .ok (.sipush 255, 3) := by decide +kernel
theorem d20 : decode yB 20 = .ok (.if_icmp (.le) 6, 3) := by decide +kernel
theorem d26 : decode yB 26 = .ok (.aload_n 2, 1) := by decide +kernel
theorem d27 : decode yB 27 = .ok (.iload_n 3, 1) := by decide +kernel
theorem d28 : decode yB 28 = .ok (.iload 6, 2) := by decide +kernel
theorem d30 : decode yB 30 = .ok (.i2b, 1) := by decide +kernel
theorem d31 : decode yB 31 = .ok (.bastore, 1) := by decide +kernel
theorem d32 : decode yB 32 = .ok (.iinc 1 1, 3) := by decide +kernel
theorem d35 : decode yB 35 = .ok (.iinc 3 1, 3) := by decide +kernel
theorem d38 : decode yB 38 = .ok (.iinc 5 1, 3) := by decide +kernel
theorem d41 : decode yB 41 = .ok (.goto (-38), 3) := by decide +kernel
theorem d44 : decode yB 44 = .ok (.iload 4, 2) := by decide +kernel
theorem d46 : decode yB 46 = .ok (.ireturn, 1) := by decide +kernel
def site : List Cond := []
def tab : Cond := tabOf yN yB 7 (some .int) site
def P (b : Addr) (A : Cell) (d : Addr) (B : Cell) (o q len : Nat) (args : Array Value) (s : State) : Prop := args = #[.ref b, .int (Int32.ofNat o), .ref d, .int (Int32.ofNat q), .int (Int32.ofNat len)] ∧ Ch b A s ∧ Arr .byte d B s ∧ b ≠ d ∧ o + len ≤ A.slots.size ∧ q + len ≤ B.slots.size ∧ ∀ i, i < len → ¬ 255 < cv A (o + i)
def E (b : Addr) (A : Cell) (d : Addr) (B : Cell) (o q len : Nat) (r : Option Value) (s u : State) : Prop := r = some (.int (Int32.ofNat len)) ∧ ∃ B', Put d B' s u ∧ Laid B B' q (q + len) (fun j => Value.int (lo8 (cv A (o + (j - q)))))
/-- no char of the range above 255: len; the places written hold each char's low byte -/
theorem law (l : Launch) (b : Addr) (A : Cell) (d : Addr) (B : Cell) (o q len : Nat) : Law l yN 5 5 0 0 yB 7 (some .int) site (P b A d B o q len) (E b A d B o q len) (copyLocs d q len) 0 0 := by
  refine Law.of_walk (plainFor_of_name (by decide +kernel)) (by decide +kernel) (by decide +kernel) (by decide) (fun _ _ h => by rw [h.1]; rfl) (fun _ U U' hal hh h => ⟨h.1, h.2.1.mv hal hh, h.2.2.1.mv hal hh, h.2.2.2⟩) (fun r U U' V V' h1 hal h2 h => ⟨h.1, h.2.elim fun B' q => ⟨B', q.1.mv h1 h2, q.2⟩⟩) ?_
  intro p e s m args below meth c s₁ X0 hexec hbytes hml hret hlk hnm hown hh0 W hP
  obtain ⟨rfl, hA, hB, hne, l1, l2, hp⟩ := hP
  have c1 : Steps p.tables e below (s₁.setTop (entryFrame m #[.ref b, .int (Int32.ofNat o), .ref d, .int (Int32.ofNat q), .int (Int32.ofNat len)] 7)) (s₁.setTop (mkF m 0 #[.val (.ref b), .val (.int (Int32.ofNat o)), .val (.ref d), .val (.int (Int32.ofNat q)), .val (.int (Int32.ofNat len)), .unset, .unset] [])) := entry rfl
  have hA0 := hA.1.mv X0.warmed.alike hh0
  have hB0 := hB.mv X0.warmed.alike hh0
  have a31 := hA.1.2.2.2
  have c2 : Steps p.tables e below (s₁.setTop (entryFrame m #[.ref b, .int (Int32.ofNat o), .ref d, .int (Int32.ofNat q), .int (Int32.ofNat len)] 7)) (s₁.setTop (mkF m 3 #[.val (.ref b), .val (.int (Int32.ofNat o)), .val (.ref d), .val (.int (Int32.ofNat q)), .val (.int (Int32.ofNat len)), .val (.int 0), .unset] [])) := c1.trans (by
    refine iconstV X0.here hexec rfl 0 (hb hbytes d0) (by decide) ?_
    refine XS.istore X0.here hexec rfl (hb hbytes d1) rfl rfl ?_
    exact Steps.refl _)
  have loop : ∀ (r i : Nat), i + r = len → ∀ (z : Slot), (z = .unset ∨ ∃ w, z = .val w ∧ w.category = 1) → ∀ (Tl : State) (Bk : Cell), Stand p l e { frames := 0, locals := 0, cells := 0, slots := 0 } s m #[.ref b, .int (Int32.ofNat o), .ref d, .int (Int32.ofNat q), .int (Int32.ofNat len)] below meth c Tl ([] ++ copyLocs d q i) 0 0 → Put d Bk s₁ Tl → Laid B Bk q (q + i) (fun j => Value.int (lo8 (cv A (o + (j - q))))) →
      Steps p.tables e below (s₁.setTop (entryFrame m #[.ref b, .int (Int32.ofNat o), .ref d, .int (Int32.ofNat q), .int (Int32.ofNat len)] 7)) (Tl.setTop (mkF m 3 #[.val (.ref b), .val (.int (Int32.ofNat (o + i))), .val (.ref d), .val (.int (Int32.ofNat (q + i))), .val (.int (Int32.ofNat len)), .val (.int (Int32.ofNat i)), z] [])) → ∃ (T' : State) (B' : Cell) (z' : Slot), Stand p l e { frames := 0, locals := 0, cells := 0, slots := 0 } s m #[.ref b, .int (Int32.ofNat o), .ref d, .int (Int32.ofNat q), .int (Int32.ofNat len)] below meth c T' ([] ++ copyLocs d q len) 0 0 ∧ Put d B' s₁ T' ∧ Laid B B' q (q + len) (fun j => Value.int (lo8 (cv A (o + (j - q))))) ∧
      Steps p.tables e below (s₁.setTop (entryFrame m #[.ref b, .int (Int32.ofNat o), .ref d, .int (Int32.ofNat q), .int (Int32.ofNat len)] 7)) (T'.setTop (mkF m 3 #[.val (.ref b), .val (.int (Int32.ofNat (o + len))), .val (.ref d), .val (.int (Int32.ofNat (q + len))), .val (.int (Int32.ofNat len)), .val (.int (Int32.ofNat len)), z'] [])) := by
    intro r
    induction r with
    | zero =>
      intro i hi z hz Tl Bk Xl pl fl cl
      have hil : i = len := by omega
      rw [hil] at Xl fl cl
      exact ⟨Tl, Bk, z, Xl, pl, fl, cl⟩
    | succ r ih =>
      intro i hi z hz Tl Bk Xl pl fl cl
      have all := X0.warmed.alike.symm.trans Xl.warmed.alike
      have hAl := hA0.keep all (pl.other hne hA0.1)
      have hBk := hB0.like all pl.1 fl.1 fl.2.1 fl.2.2.1
      have hlt : q + i < Bk.slots.size := by rw [fl.2.2.1]; omega
      have c3 : Steps p.tables e below (s₁.setTop (entryFrame m #[.ref b, .int (Int32.ofNat o), .ref d, .int (Int32.ofNat q), .int (Int32.ofNat len)] 7)) (Tl.setTop (mkF m 12 #[.val (.ref b), .val (.int (Int32.ofNat (o + i))), .val (.ref d), .val (.int (Int32.ofNat (q + i))), .val (.int (Int32.ofNat len)), .val (.int (Int32.ofNat i)), z] [.int (Int32.ofNat (o + i)), .ref b])) := cl.trans (by
        refine XS.iload Xl.here hexec rfl (hb hbytes d3) rfl ?_
        refine XS.iload Xl.here hexec rfl (hb hbytes d5) rfl ?_
        refine XS.icmpNo Xl.here hexec rfl (hb hbytes d7) rfl (ii_ge_f (lt32 (by omega) (by omega))) ?_
        refine XS.aloadN Xl.here hexec rfl (hb hbytes d10) rfl rfl ?_
        refine XS.iloadN Xl.here hexec rfl (hb hbytes d11) rfl ?_
        exact Steps.refl _)
      have c4 : Steps p.tables e below (s₁.setTop (entryFrame m #[.ref b, .int (Int32.ofNat o), .ref d, .int (Int32.ofNat q), .int (Int32.ofNat len)] 7)) (Tl.setTop (mkF m 13 #[.val (.ref b), .val (.int (Int32.ofNat (o + i))), .val (.ref d), .val (.int (Int32.ofNat (q + i))), .val (.int (Int32.ofNat len)), .val (.int (Int32.ofNat i)), z] [.int (cv A (o + i))])) := c3.trans (by
        refine Xl.aget hexec hAl rfl (hA.get (i := o + i) (by omega)) rfl rfl (hb hbytes d12) ?_
        exact Steps.refl _)
      have c5 : Steps p.tables e below (s₁.setTop (entryFrame m #[.ref b, .int (Int32.ofNat o), .ref d, .int (Int32.ofNat q), .int (Int32.ofNat len)] 7)) (Tl.setTop (mkF m 15 #[.val (.ref b), .val (.int (Int32.ofNat (o + i))), .val (.ref d), .val (.int (Int32.ofNat (q + i))), .val (.int (Int32.ofNat len)), .val (.int (Int32.ofNat i)), .val (.int (cv A (o + i)))] [])) := c4.trans (by
        refine XS.istoreS Xl.here hexec rfl (hb hbytes d13) rfl rfl hz ?_
        exact Steps.refl _)
      have c6 : Steps p.tables e below (s₁.setTop (entryFrame m #[.ref b, .int (Int32.ofNat o), .ref d, .int (Int32.ofNat q), .int (Int32.ofNat len)] 7)) (Tl.setTop (mkF m 31 #[.val (.ref b), .val (.int (Int32.ofNat (o + i))), .val (.ref d), .val (.int (Int32.ofNat (q + i))), .val (.int (Int32.ofNat len)), .val (.int (Int32.ofNat i)), .val (.int (cv A (o + i)))] [.int (lo8 (cv A (o + i))), .int (Int32.ofNat (q + i)), .ref d])) := c5.trans (by
        refine XS.iload Xl.here hexec rfl (hb hbytes d15) rfl ?_
        refine sipushV Xl.here hexec rfl 255 (hb hbytes d17) (by decide) ?_
        refine XS.icmpYes Xl.here hexec rfl (pc0 := 20) rfl (hb hbytes d20) rfl (ii_le_t (hp i (by omega))) (by decide) rfl ?_
        refine XS.aloadN Xl.here hexec rfl (hb hbytes d26) rfl rfl ?_
        refine XS.iloadN Xl.here hexec rfl (hb hbytes d27) rfl ?_
        refine XS.iload Xl.here hexec rfl (hb hbytes d28) rfl ?_
        refine i2b Xl.here hexec rfl (hb hbytes d30) rfl ?_
        exact Steps.refl _)
      obtain ⟨T7, X7, p7, st7⟩ := Xl.aput hexec hBk rfl hlt rfl (fits_lo8 (cv A (o + i))) (g := (mkF m 31 #[.val (.ref b), .val (.int (Int32.ofNat (o + i))), .val (.ref d), .val (.int (Int32.ofNat (q + i))), .val (.int (Int32.ofNat len)), .val (.int (Int32.ofNat i)), .val (.int (cv A (o + i)))] [.int (lo8 (cv A (o + i))), .int (Int32.ofNat (q + i)), .ref d])) rfl (rest := []) rfl (hb hbytes d31)
      have c8 : Steps p.tables e below (s₁.setTop (entryFrame m #[.ref b, .int (Int32.ofNat o), .ref d, .int (Int32.ofNat q), .int (Int32.ofNat len)] 7)) (T7.setTop (mkF m 32 #[.val (.ref b), .val (.int (Int32.ofNat (o + i))), .val (.ref d), .val (.int (Int32.ofNat (q + i))), .val (.int (Int32.ofNat len)), .val (.int (Int32.ofNat i)), .val (.int (cv A (o + i)))] [])) := c6.trans (st7 _ (Steps.refl _))
      have c9 : Steps p.tables e below (s₁.setTop (entryFrame m #[.ref b, .int (Int32.ofNat o), .ref d, .int (Int32.ofNat q), .int (Int32.ofNat len)] 7)) (T7.setTop (mkF m 3 #[.val (.ref b), .val (.int (Int32.ofNat (o + i) + 1)), .val (.ref d), .val (.int (Int32.ofNat (q + i) + 1)), .val (.int (Int32.ofNat len)), .val (.int (Int32.ofNat i + 1)), .val (.int (cv A (o + i)))] [])) := c8.trans (by
        refine iincV X7.here hexec rfl 1 (hb hbytes d32) (by decide) rfl rfl ?_
        refine iincV X7.here hexec rfl 1 (hb hbytes d35) (by decide) rfl rfl ?_
        refine iincV X7.here hexec rfl 1 (hb hbytes d38) (by decide) rfl rfl ?_
        refine XS.goto X7.here hexec rfl (pc0 := 41) rfl (hb hbytes d41) (by decide) rfl ?_
        exact Steps.refl _)
      have c10 : Steps p.tables e below (s₁.setTop (entryFrame m #[.ref b, .int (Int32.ofNat o), .ref d, .int (Int32.ofNat q), .int (Int32.ofNat len)] 7)) (T7.setTop (mkF m 3 #[.val (.ref b), .val (.int (Int32.ofNat (o + (i + 1)))), .val (.ref d), .val (.int (Int32.ofNat (q + (i + 1)))), .val (.int (Int32.ofNat len)), .val (.int (Int32.ofNat (i + 1))), .val (.int (cv A (o + i)))] [])) := by
        have := c9
        rw [succ32, succ32, succ32] at this
        exact this
      exact ih (i + 1) (by omega) _ (Or.inr ⟨_, rfl, rfl⟩) T7 _ (by rw [copyLocs_step, ← List.append_assoc]; exact X7) (pl.trans p7) (fl.step (by omega) hlt (by simp)) c10
  obtain ⟨T9, B9, z9, X9, p9, f9, g9⟩ := loop len 0 (by omega) .unset (Or.inl rfl) s₁ B (by simpa [copyLocs] using X0) ⟨hB0.1, fun _ _ => rfl, rfl⟩ (Laid.zero _ _ _) c2
  have c11 : Steps p.tables e below (s₁.setTop (entryFrame m #[.ref b, .int (Int32.ofNat o), .ref d, .int (Int32.ofNat q), .int (Int32.ofNat len)] 7)) (T9.setTop (mkF m 46 #[.val (.ref b), .val (.int (Int32.ofNat (o + len))), .val (.ref d), .val (.int (Int32.ofNat (q + len))), .val (.int (Int32.ofNat len)), .val (.int (Int32.ofNat len)), z9] [.int (Int32.ofNat len)])) := g9.trans (by
    refine XS.iload X9.here hexec rfl (hb hbytes d3) rfl ?_
    refine XS.iload X9.here hexec rfl (hb hbytes d5) rfl ?_
    refine XS.icmpYes X9.here hexec rfl (pc0 := 7) rfl (hb hbytes d7) rfl (ii_ge_t (nlt32 (by omega) (Nat.le_refl _))) (by decide) rfl ?_
    refine XS.iload X9.here hexec rfl (hb hbytes d44) rfl ?_
    exact Steps.refl _)
  exact ⟨T9, some (.int (Int32.ofNat len)), _, _, _, X9, by simp, rfl, rfl, (fun h => by cases h), ⟨rfl, B9, p9.from hh0, f9⟩, fun fs hl => c11.trans (X9.ireturnOut hexec hret rfl (Or.inl rfl) (hb hbytes d46) hl)⟩
end Cmp5
namespace Cmp3
def yN : MethodName := ⟨"java/lang/StringUTF16", "compress", "([CII)[B"⟩
abbrev yB : ByteArray := jdk_52_method_16_code
theorem d0 : decode yB 0 = .ok (.iload_n 2, 1) := by decide +kernel
theorem d1 : decode yB 1 = .ok (.newarray .byte, 2) := by decide +kernel
theorem d3 : decode yB 3 = .ok (.astore_n 3, 1) := by decide +kernel
theorem d4 : decode yB 4 = .ok (.aload_n 0, 1) := by decide +kernel
theorem d5 : decode yB 5 = .ok (.iload_n 1, 1) := by decide +kernel
theorem d6 : decode yB 6 = .ok (.aload_n 3, 1) := by decide +kernel
theorem d7 : decode yB 7 = .ok (.iconst 0, 1) := by decide +kernel
theorem d8 : decode yB 8 = .ok (.iload_n 2, 1) := by decide +kernel
theorem d9 : decode yB 9 = .ok (.invokestatic 115, 3) := by decide +kernel
theorem d12 : decode yB 12 = .ok (.istore 4, 2) := by decide +kernel
theorem d14 : decode yB 14 = .ok (.iload 4, 2) := by decide +kernel
theorem d16 : decode yB 16 = .ok (.iload_n 2, 1) := by decide +kernel
theorem d17 : decode yB 17 = .ok (.if_icmp (.eq) 40, 3) := by decide +kernel
theorem d57 : decode yB 57 = .ok (.aload_n 3, 1) := by decide +kernel
theorem d58 : decode yB 58 = .ok (.areturn, 1) := by decide +kernel
def site : List Cond := [.arrayClass .byte, Cmp5.tab] ++ staticW U16 115 Cmp5.yN
def tab : Cond := tabOf yN yB 6 (some (.array .byte)) site
def P (b : Addr) (A : Cell) (o len : Nat) (args : Array Value) (s : State) : Prop := args = #[.ref b, .int (Int32.ofNat o), .int (Int32.ofNat len)] ∧ Ch b A s ∧ o + len ≤ A.slots.size ∧ len ≤ 536870912 ∧ ∀ i, i < len → ¬ 255 < cv A (o + i)
def E (b : Addr) (A : Cell) (o len : Nat) (r : Option Value) (s u : State) : Prop := NewArr .byte "[B" len (fun j => .int (lo8 (cv A (o + j)))) r s u ∧ u.heap.size = s.heap.size + 1
/-- no char of the range above 255: a new byte[] of their low bytes -/
theorem law (l : Launch) (b : Addr) (A : Cell) (o len : Nat) : Law l yN 3 3 1 18 yB 6 (some (.array .byte)) site (P b A o len) (E b A o len) [] 1 len := by
  refine Law.of_walk (plainFor_of_name (by decide +kernel)) (by decide +kernel) (by decide +kernel) (by decide) (fun _ _ h => by rw [h.1]; rfl) (fun _ U U' hal hh h => ⟨h.1, h.2.1.mv hal hh, h.2.2⟩) (fun r U U' V V' h1 hal h2 h => ⟨NewArr.mv r U U' V V' h1 hal h2 h.1, by rw [h1, h2]; exact h.2⟩) ?_
  intro p e s m args below meth c s₁ X0 hexec hbytes hml hret hlk hnm hown hh0 W hP
  obtain ⟨rfl, hA, l1, l2, hp⟩ := hP
  have a31 := hA.1.2.2.2
  have c1 : Steps p.tables e below (s₁.setTop (entryFrame m #[.ref b, .int (Int32.ofNat o), .int (Int32.ofNat len)] 6)) (s₁.setTop (mkF m 0 #[.val (.ref b), .val (.int (Int32.ofNat o)), .val (.int (Int32.ofNat len)), .unset, .unset, .unset] [])) := entry rfl
  have c2 : Steps p.tables e below (s₁.setTop (entryFrame m #[.ref b, .int (Int32.ofNat o), .int (Int32.ofNat len)] 6)) (s₁.setTop (mkF m 1 #[.val (.ref b), .val (.int (Int32.ofNat o)), .val (.int (Int32.ofNat len)), .unset, .unset, .unset] [.int (Int32.ofNat len)])) := c1.trans (by
    refine XS.iloadN X0.here hexec rfl (hb hbytes d0) rfl ?_
    exact Steps.refl _)
  obtain ⟨T3, B3, X3, ba3, bs3, bv3, bh3, bf3, st3⟩ := X0.anew hexec (atype := .byte) (wk W (.arrayClass .byte)) rfl (by show len * 1 ≤ _; omega) (by omega) (g := (mkF m 1 #[.val (.ref b), .val (.int (Int32.ofNat o)), .val (.int (Int32.ofNat len)), .unset, .unset, .unset] [.int (Int32.ofNat len)])) rfl (hb hbytes d1) (rest := []) rfl (Nat.le_refl _) (by show 0 + len ≤ len; omega)
  rw [hh0] at ba3 st3
  have kp3 : XT.Kept s T3 := (XT.Kept.of_eq hh0).push bh3
  have hA3 := hA.keep X3.warmed.alike (kp3 _ _ hA.1.1)
  have hne : b ≠ s.heap.size := hA.1.ne
  have c4 : Steps p.tables e below (s₁.setTop (entryFrame m #[.ref b, .int (Int32.ofNat o), .int (Int32.ofNat len)] 6)) (T3.setTop (mkF m 3 #[.val (.ref b), .val (.int (Int32.ofNat o)), .val (.int (Int32.ofNat len)), .unset, .unset, .unset] [.ref s.heap.size])) := c2.trans (st3 _ (Steps.refl _))
  have c5 : Steps p.tables e below (s₁.setTop (entryFrame m #[.ref b, .int (Int32.ofNat o), .int (Int32.ofNat len)] 6)) (T3.setTop (mkF m 9 #[.val (.ref b), .val (.int (Int32.ofNat o)), .val (.int (Int32.ofNat len)), .val (.ref s.heap.size), .unset, .unset] [.int (Int32.ofNat len), .int 0, .ref s.heap.size, .int (Int32.ofNat o), .ref b])) := c4.trans (by
    refine XS.astoreN X3.here hexec rfl (hb hbytes d3) rfl rfl rfl ?_
    refine XS.aloadN X3.here hexec rfl (hb hbytes d4) rfl rfl ?_
    refine XS.iloadN X3.here hexec rfl (hb hbytes d5) rfl ?_
    refine XS.aloadN X3.here hexec rfl (hb hbytes d6) rfl rfl ?_
    refine iconstV X3.here hexec rfl 0 (hb hbytes d7) (by decide) ?_
    refine XS.iloadN X3.here hexec rfl (hb hbytes d8) rfl ?_
    exact Steps.refl _)
  obtain ⟨v6, T6, X6, E6, g6⟩ := X3.callS hexec (Cmp5.law l b A s.heap.size B3 o 0 len) hown (wks W (staticW U16 115 Cmp5.yN)) (wk W Cmp5.tab) (W := 0) (Nat.le_of_ble_eq_true rfl) (Nat.le_of_ble_eq_true rfl) (Nat.le_refl _) (by show 0 + len + 0 ≤ len; omega) (g := (mkF m 9 #[.val (.ref b), .val (.int (Int32.ofNat o)), .val (.int (Int32.ofNat len)), .val (.ref s.heap.size), .unset, .unset] [.int (Int32.ofNat len), .int (Int32.ofNat 0), .ref s.heap.size, .int (Int32.ofNat o), .ref b])) rfl (by rw [hml]; rfl) c5 (argsL := [.ref b, .int (Int32.ofNat o), .ref s.heap.size, .int (Int32.ofNat 0), .int (Int32.ofNat len)]) (rest := []) rfl rfl (by show 2 * 0 + 0 ≤ _; decide) (hb hbytes d9) (⟨rfl, hA3, ba3, hne, l1, by rw [bs3]; simp, hp⟩)
  obtain ⟨rfl, B6, p6, f6⟩ := E6
  have c7 : Steps p.tables e below (s₁.setTop (entryFrame m #[.ref b, .int (Int32.ofNat o), .int (Int32.ofNat len)] 6)) (T6.setTop (mkF m 12 #[.val (.ref b), .val (.int (Int32.ofNat o)), .val (.int (Int32.ofNat len)), .val (.ref s.heap.size), .unset, .unset] [.int (Int32.ofNat len)])) := g6
  have c8 : Steps p.tables e below (s₁.setTop (entryFrame m #[.ref b, .int (Int32.ofNat o), .int (Int32.ofNat len)] 6)) (T6.setTop (mkF m 58 #[.val (.ref b), .val (.int (Int32.ofNat o)), .val (.int (Int32.ofNat len)), .val (.ref s.heap.size), .val (.int (Int32.ofNat len)), .unset] [.ref s.heap.size])) := c7.trans (by
    refine XS.istore X6.here hexec rfl (hb hbytes d12) rfl rfl ?_
    refine XS.iload X6.here hexec rfl (hb hbytes d14) rfl ?_
    refine XS.iloadN X6.here hexec rfl (hb hbytes d16) rfl ?_
    refine XS.icmpYes X6.here hexec rfl (pc0 := 17) rfl (hb hbytes d17) rfl (ii_eq_t rfl) (by decide) rfl ?_
    refine XS.aloadN X6.here hexec rfl (hb hbytes d57) rfl rfl ?_
    exact Steps.refl _)
  have X8 := X6.wide (L' := []) (cells' := 1) (slots' := len) (fun x hx hlt => by
    simp only [List.nil_append, copyLocs, List.mem_map, List.mem_range] at hx
    obtain ⟨i, -, rfl⟩ := hx
    exact absurd hlt (Nat.lt_irrefl _)) (Nat.le_refl _) (by omega)
  exact ⟨T6, some (.ref s.heap.size), _, _, _, X8, rfl, rfl, rfl, (fun h => by cases h), ⟨⟨rfl, B6, ba3.like (X3.warmed.alike.symm.trans X6.warmed.alike) p6.1 f6.1 f6.2.1 f6.2.2.1, f6.2.1.trans bv3, by rw [X6.warmed.alike.findClass, f6.1]; exact bf3, by rw [f6.2.2.1, bs3]; simp, fun j hj => by rw [f6.2.2.2 j, if_pos (by omega)]; rfl, kp3.put p6 (Nat.le_refl _)⟩, by rw [p6.2.2, bh3, hh0]; simp⟩, fun fs hl => c8.trans (X8.areturnOut hexec rfl hret rfl (hb hbytes d58) hl)⟩
end Cmp3
namespace CodL
def yN : MethodName := ⟨"java/lang/StringUTF16", "coderFromArrayLen", "([BI)B"⟩
abbrev yB : ByteArray := jdk_52_method_15_code
theorem d0 : decode yB 0 = .ok (.iload_n 1, 1) := by decide +kernel
theorem d1 : decode yB 1 = .ok (.aload_n 0, 1) := by decide +kernel
theorem d2 : decode yB 2 = .ok (.arraylength, 1) := by decide +kernel
theorem d3 : decode yB 3 = .ok (.isub, 1) := by decide +kernel
theorem d4 : decode yB 4 = .ok (.bipush 31, 2) := by decide +kernel
theorem d6 : decode yB 6 = .ok (.iushr, 1) := by decide +kernel
theorem d7 : decode yB 7 = .ok (.i2b, 1) := by decide +kernel
theorem d8 : decode yB 8 = .ok (.ireturn, 1) := by decide +kernel
def site : List Cond := []
def tab : Cond := tabOf yN yB 2 (some .byte) site
def P (d : Addr) (B : Cell) (args : Array Value) (s : State) : Prop := args = #[.ref d, .int (Int32.ofNat B.slots.size)] ∧ Arr .byte d B s
def E (r : Option Value) (s u : State) : Prop := XT.PureE (some (.int 0)) r s u
/-- an array as long as the number of chars: LATIN1 -/
theorem law (l : Launch) (d : Addr) (B : Cell) : Law l yN 2 2 0 0 yB 2 (some .byte) site (P d B) E [] 0 0 := by
  refine Law.of_walk (plainFor_of_name (by decide +kernel)) (by decide +kernel) (by decide +kernel) (by decide) (fun _ _ h => by rw [h.1]; rfl) (fun _ U U' hal hh h => ⟨h.1, h.2.mv hal hh⟩) (fun r U U' V V' h1 hal h2 h => XT.PureE.mv r U U' V V' h1 hal h2 h) ?_
  intro p e s m args below meth c s₁ X0 hexec hbytes hml hret hlk hnm hown hh0 W hP
  obtain ⟨rfl, hB⟩ := hP
  have hB0 := hB.mv X0.warmed.alike hh0
  have c1 : Steps p.tables e below (s₁.setTop (entryFrame m #[.ref d, .int (Int32.ofNat B.slots.size)] 2)) (s₁.setTop (mkF m 0 #[.val (.ref d), .val (.int (Int32.ofNat B.slots.size))] [])) := entry rfl
  have c2 : Steps p.tables e below (s₁.setTop (entryFrame m #[.ref d, .int (Int32.ofNat B.slots.size)] 2)) (s₁.setTop (mkF m 2 #[.val (.ref d), .val (.int (Int32.ofNat B.slots.size))] [.ref d, .int (Int32.ofNat B.slots.size)])) := c1.trans (by
    refine XS.iloadN X0.here hexec rfl (hb hbytes d0) rfl ?_
    refine XS.aloadN X0.here hexec rfl (hb hbytes d1) rfl rfl ?_
    exact Steps.refl _)
  have c3 : Steps p.tables e below (s₁.setTop (entryFrame m #[.ref d, .int (Int32.ofNat B.slots.size)] 2)) (s₁.setTop (mkF m 8 #[.val (.ref d), .val (.int (Int32.ofNat B.slots.size))] [.int (lo8 (ushr (Int32.ofNat B.slots.size - Int32.ofNat B.slots.size) 31))])) := c2.trans (by
    refine X0.alen hexec hB0 rfl rfl (hb hbytes d2) ?_
    refine XS.isub X0.here hexec rfl (hb hbytes d3) rfl ?_
    refine bipushV X0.here hexec rfl 31 (hb hbytes d4) (by decide) ?_
    refine iushr X0.here hexec rfl (hb hbytes d6) rfl ?_
    refine i2b X0.here hexec rfl (hb hbytes d7) rfl ?_
    exact Steps.refl _)
  have e0 : lo8 (ushr (Int32.ofNat B.slots.size - Int32.ofNat B.slots.size) 31) = 0 := by rw [Int32.sub_self]; decide
  rw [e0] at c3
  exact ⟨s₁, some (.int 0), _, _, _, X0, rfl, rfl, rfl, (fun h => by cases h), ⟨rfl, hh0⟩, fun fs hl => c3.trans (X0.ireturnOut hexec hret rfl (Or.inr (Or.inr (Or.inl rfl))) (hb hbytes d8) hl)⟩
end CodL
/-- the String at a is Latin-1 over a new byte[] (the heap's one new cell): the low bytes of the len chars of A from o on; every cell but a is kept -/
def Got (a : Addr) (D : Cell) (fV fC : Field) (A : Cell) (o len : Nat) (r : Option Value) (s u : State) : Prop := r = none ∧ ∃ D' V : Cell, Blank "java/lang/String" a D' u ∧ Same D D' [fV.slot, fC.slot] ∧ D'.slots[fV.slot]? = some (.ref s.heap.size) ∧ D'.slots[fC.slot]? = some (.int 0) ∧ Arr .byte s.heap.size V u ∧ V.vm = .none ∧ u.vm.findClass "[B" = some V.cls ∧ V.slots.size = len ∧ (∀ j, j < len → V.slots[j]? = some (.int (lo8 (cv A (o + j))))) ∧ (∀ (y : Addr) (c : Cell), y ≠ a → s.heap[y]? = some c → u.heap[y]? = some c) ∧ u.heap.size = s.heap.size + 1
theorem Got.mv {a : Addr} {D A : Cell} {fV fC : Field} {o len : Nat} : ∀ r (U U' V V' : State), U'.heap = U.heap → V.vm.Alike V'.vm → V'.heap = V.heap → Got a D fV fC A o len r U V → Got a D fV fC A o len r U' V' :=
  fun r U U' V V' h1 hal h2 ⟨e0, D', X, a1, a2, a3, a4, a5, a6, a7, a8, a9, a10, a11⟩ => ⟨e0, D', X, a1.mv hal h2, a2, by rw [h1]; exact a3, a4, by rw [h1]; exact a5.mv hal h2, a6, by rw [hal.findClass]; exact a7, a8, a9, by rw [h1, h2]; exact a10, by rw [h1, h2]; exact a11⟩
namespace New4
def yN : MethodName := ⟨"java/lang/String", "<init>", "([CIILjava/lang/Void;)V"⟩
abbrev yB : ByteArray := jdk_42_method_149_code
theorem d0 : decode yB 0 = .ok (.aload_n 0, 1) := by decide +kernel
theorem d1 : decode yB 1 = .ok (.invokespecial 1, 3) := by decide +kernel
theorem d4 : decode yB 4 = .ok (.iload_n 3, 1) := by decide +kernel
theorem d5 : decode yB 5 = .ok (.ifCond (.ne) 22, 3) := by decide +kernel
theorem d27 : decode yB 27 = .ok (.getstatic 38, 3) := by decide +kernel
theorem d30 : decode yB 30 = .ok (.ifCond (.eq) 28, 3) := by decide +kernel
theorem d33 : decode yB 33 = .ok (.aload_n 1, 1) := by decide +kernel
theorem d34 : decode yB 34 = .ok (.iload_n 2, 1) := by decide +kernel
theorem d35 : decode yB 35 = .ok (.iload_n 3, 1) := by decide +kernel
theorem d36 : decode yB 36 = .ok (.invokestatic 177, 3) := by decide +kernel
theorem d39 : decode yB 39 = .ok (.astore 5, 2) := by decide +kernel
theorem d41 : decode yB 41 = .ok (.aload_n 0, 1) := by decide +kernel
theorem d42 : decode yB 42 = .ok (.aload 5, 2) := by decide +kernel
theorem d44 : decode yB 44 = .ok (.iload_n 3, 1) := by decide +kernel
theorem d45 : decode yB 45 = .ok (.invokestatic 47, 3) := by decide +kernel
theorem d48 : decode yB 48 = .ok (.putfield 15, 3) := by decide +kernel
theorem d51 : decode yB 51 = .ok (.aload_n 0, 1) := by decide +kernel
theorem d52 : decode yB 52 = .ok (.aload 5, 2) := by decide +kernel
theorem d54 : decode yB 54 = .ok (.putfield 9, 3) := by decide +kernel
theorem d57 : decode yB 57 = .ok (.return_, 1) := by decide +kernel
def site : List Cond := [.fieldLink "java/lang/String" 38 "java/lang/String" "COMPACT_STRINGS" "Z", Cmp3.tab, CodL.tab, .laysFinal "java/lang/String" "java/lang/String" "value" "[B", .fieldLink "java/lang/String" 9 "java/lang/String" "value" "[B", .laysFinal "java/lang/String" "java/lang/String" "coder" "B", .fieldLink "java/lang/String" 15 "java/lang/String" "coder" "B"] ++ objW "java/lang/String" 1 ++ staticW "java/lang/String" 177 Cmp3.yN ++ staticW "java/lang/String" 47 CodL.yN
def tab : Cond := tabOf yN yB 6 none site
def P (a : Addr) (D : Cell) (fV fC : Field) (b : Addr) (A : Cell) (z : Int32) (o len : Nat) (args : Array Value) (s : State) : Prop := args = #[.ref a, .ref b, .int (Int32.ofNat o), .int (Int32.ofNat len), .null] ∧ Blank "java/lang/String" a D s ∧ Found "java/lang/String" "value" "[B" fV s ∧ Found "java/lang/String" "coder" "B" fC s ∧ Ch b A s ∧ StaticIs s "java/lang/String" "COMPACT_STRINGS" "Z" (.int z) ∧ ¬ z = 0 ∧ 0 < len ∧ o + len ≤ A.slots.size ∧ len ≤ 536870912 ∧ ∀ i, i < len → ¬ 255 < cv A (o + i)
def E (a : Addr) (D : Cell) (fV fC : Field) (A : Cell) (o len : Nat) (r : Option Value) (s u : State) : Prop := Got a D fV fC A o len r s u
/-- len > 0, no char of the range above 255: a Latin-1 String of their low bytes -/
theorem law (l : Launch) (a : Addr) (D : Cell) (fV fC : Field) (b : Addr) (A : Cell) (z : Int32) (o len : Nat) : Law l yN 5 4 2 35 yB 6 none site (P a D fV fC b A z o len) (E a D fV fC A o len) [⟨a, fC.slot⟩, ⟨a, fV.slot⟩] 1 len := by
  refine Law.of_walk (plainFor_of_name (by decide +kernel)) (by decide +kernel) (by decide +kernel) (by decide) (fun _ _ h => by rw [h.1]; rfl) (fun _ U U' hal hh h => ⟨h.1, h.2.1.mv hal hh, h.2.2.1.al hal, h.2.2.2.1.al hal, h.2.2.2.2.1.mv hal hh, h.2.2.2.2.2.1.there hal hh, h.2.2.2.2.2.2⟩) (fun r U U' V V' h1 hal h2 h => Got.mv r U U' V V' h1 hal h2 h) ?_
  intro p e s m args below meth c s₁ X0 hexec hbytes hml hret hlk hnm hown hh0 W hP
  obtain ⟨rfl, hB, f1, f2, hA, s1, hz, l0, l1, l2, hp⟩ := hP
  have a31 := hA.1.2.2.2
  have c1 : Steps p.tables e below (s₁.setTop (entryFrame m #[.ref a, .ref b, .int (Int32.ofNat o), .int (Int32.ofNat len), .null] 6)) (s₁.setTop (mkF m 0 #[.val (.ref a), .val (.ref b), .val (.int (Int32.ofNat o)), .val (.int (Int32.ofNat len)), .val .null, .unset] [])) := entry rfl
  have c2 : Steps p.tables e below (s₁.setTop (entryFrame m #[.ref a, .ref b, .int (Int32.ofNat o), .int (Int32.ofNat len), .null] 6)) (s₁.setTop (mkF m 1 #[.val (.ref a), .val (.ref b), .val (.int (Int32.ofNat o)), .val (.int (Int32.ofNat len)), .val .null, .unset] [.ref a])) := c1.trans (by
    refine XS.aloadN X0.here hexec rfl (hb hbytes d0) rfl rfl ?_
    exact Steps.refl _)
  obtain ⟨T3, X3, q3, st3⟩ := X0.oinit hexec hown (wks W (objW "java/lang/String" 1)) (g := (mkF m 1 #[.val (.ref a), .val (.ref b), .val (.int (Int32.ofNat o)), .val (.int (Int32.ofNat len)), .val .null, .unset] [.ref a])) rfl (by rw [hml]; rfl) (rest := []) rfl (hb hbytes d1) (W := 0) (by show 2 * 0 + 0 ≤ _; decide) (Nat.le_of_ble_eq_true rfl) (Nat.le_of_ble_eq_true rfl)
  have hh3 := q3.trans hh0
  have c4 : Steps p.tables e below (s₁.setTop (entryFrame m #[.ref a, .ref b, .int (Int32.ofNat o), .int (Int32.ofNat len), .null] 6)) (T3.setTop (mkF m 27 #[.val (.ref a), .val (.ref b), .val (.int (Int32.ofNat o)), .val (.int (Int32.ofNat len)), .val .null, .unset] [])) := (c2.trans (st3 _ (Steps.refl _))).trans (by
    refine XS.iloadN X3.here hexec rfl (hb hbytes d4) rfl ?_
    refine XS.ifYes X3.here hexec rfl (pc0 := 5) rfl (hb hbytes d5) rfl (i0_ne_t (nz32 (by omega) l0)) (by decide) rfl ?_
    exact Steps.refl _)
  obtain ⟨T5, X5, q5, st5⟩ := X3.sget hexec hown (wk W (.fieldLink "java/lang/String" 38 "java/lang/String" "COMPACT_STRINGS" "Z")) s1 (fun _ _ h => by rw [hh3]; exact h) (g := (mkF m 27 #[.val (.ref a), .val (.ref b), .val (.int (Int32.ofNat o)), .val (.int (Int32.ofNat len)), .val .null, .unset] [])) rfl (hb hbytes d27)
  have hh5 := q5.trans hh3
  have c6 : Steps p.tables e below (s₁.setTop (entryFrame m #[.ref a, .ref b, .int (Int32.ofNat o), .int (Int32.ofNat len), .null] 6)) (T5.setTop (mkF m 30 #[.val (.ref a), .val (.ref b), .val (.int (Int32.ofNat o)), .val (.int (Int32.ofNat len)), .val .null, .unset] [.int z])) := c4.trans (st5 _ (Steps.refl _))
  have c7 : Steps p.tables e below (s₁.setTop (entryFrame m #[.ref a, .ref b, .int (Int32.ofNat o), .int (Int32.ofNat len), .null] 6)) (T5.setTop (mkF m 36 #[.val (.ref a), .val (.ref b), .val (.int (Int32.ofNat o)), .val (.int (Int32.ofNat len)), .val .null, .unset] [.int (Int32.ofNat len), .int (Int32.ofNat o), .ref b])) := c6.trans (by
    refine XS.ifNo X5.here hexec rfl (hb hbytes d30) rfl (i0_eq_f hz) ?_
    refine XS.aloadN X5.here hexec rfl (hb hbytes d33) rfl rfl ?_
    refine XS.iloadN X5.here hexec rfl (hb hbytes d34) rfl ?_
    refine XS.iloadN X5.here hexec rfl (hb hbytes d35) rfl ?_
    exact Steps.refl _)
  obtain ⟨v8, T8, X8, E8, g8⟩ := X5.callS hexec (Cmp3.law l b A o len) hown (wks W (staticW "java/lang/String" 177 Cmp3.yN)) (wk W Cmp3.tab) (W := 0) (Nat.le_of_ble_eq_true rfl) (Nat.le_of_ble_eq_true rfl) (Nat.le_refl _) (by show 0 + len ≤ len; omega) (g := (mkF m 36 #[.val (.ref a), .val (.ref b), .val (.int (Int32.ofNat o)), .val (.int (Int32.ofNat len)), .val .null, .unset] [.int (Int32.ofNat len), .int (Int32.ofNat o), .ref b])) rfl (by rw [hml]; rfl) c7 (argsL := [.ref b, .int (Int32.ofNat o), .int (Int32.ofNat len)]) (rest := []) rfl rfl (by show 2 * 0 + 0 ≤ _; decide) (hb hbytes d36) (⟨rfl, hA.mv X5.warmed.alike hh5, l1, l2, hp⟩)
  obtain ⟨e8, z8⟩ := E8
  obtain ⟨rfl, N, n1, n2, n3, n4, n5, n6⟩ := NewArr.mv _ T5 s _ _ hh5.symm (Vm.Alike.refl _) rfl e8
  rw [hh5] at z8
  have hB1 := hB.keep X8.warmed.alike (n6 _ _ hB.1)
  have hne : s.heap.size ≠ a := (Nat.ne_of_lt (Array.getElem?_eq_some_iff.mp hB.1).1).symm
  have c9 : Steps p.tables e below (s₁.setTop (entryFrame m #[.ref a, .ref b, .int (Int32.ofNat o), .int (Int32.ofNat len), .null] 6)) (T8.setTop (mkF m 39 #[.val (.ref a), .val (.ref b), .val (.int (Int32.ofNat o)), .val (.int (Int32.ofNat len)), .val .null, .unset] [.ref s.heap.size])) := g8
  have c10 : Steps p.tables e below (s₁.setTop (entryFrame m #[.ref a, .ref b, .int (Int32.ofNat o), .int (Int32.ofNat len), .null] 6)) (T8.setTop (mkF m 45 #[.val (.ref a), .val (.ref b), .val (.int (Int32.ofNat o)), .val (.int (Int32.ofNat len)), .val .null, .val (.ref s.heap.size)] [.int (Int32.ofNat N.slots.size), .ref s.heap.size, .ref a])) := by
    have hc : Steps p.tables e below (s₁.setTop (entryFrame m #[.ref a, .ref b, .int (Int32.ofNat o), .int (Int32.ofNat len), .null] 6)) (T8.setTop (mkF m 45 #[.val (.ref a), .val (.ref b), .val (.int (Int32.ofNat o)), .val (.int (Int32.ofNat len)), .val .null, .val (.ref s.heap.size)] [.int (Int32.ofNat len), .ref s.heap.size, .ref a])) := c9.trans (by
      refine XS.astore X8.here hexec rfl (hb hbytes d39) rfl rfl rfl ?_
      refine XS.aloadN X8.here hexec rfl (hb hbytes d41) rfl rfl ?_
      refine XS.aload X8.here hexec rfl (hb hbytes d42) rfl rfl ?_
      refine XS.iloadN X8.here hexec rfl (hb hbytes d44) rfl ?_
      exact Steps.refl _)
    rw [n4]; exact hc
  obtain ⟨v11, T11, X11, E11, g11⟩ := X8.callS hexec (CodL.law l s.heap.size N) hown (wks W (staticW "java/lang/String" 47 CodL.yN)) (wk W CodL.tab) (W := 1) (Nat.le_of_ble_eq_true rfl) (Nat.le_of_ble_eq_true rfl) (Nat.le_refl _) (by show 0 + len + 0 ≤ len; omega) (g := (mkF m 45 #[.val (.ref a), .val (.ref b), .val (.int (Int32.ofNat o)), .val (.int (Int32.ofNat len)), .val .null, .val (.ref s.heap.size)] [.int (Int32.ofNat N.slots.size), .ref s.heap.size, .ref a])) rfl (by rw [hml]; rfl) c10 (argsL := [.ref s.heap.size, .int (Int32.ofNat N.slots.size)]) (rest := [.ref a]) rfl rfl (by show 2 * 0 + (1 + 0) ≤ _; decide) (hb hbytes d45) (⟨rfl, n1⟩)
  obtain ⟨rfl, q11⟩ := E11
  have hB11 := hB1.mv (X8.warmed.alike.symm.trans X11.warmed.alike) q11
  have c12 : Steps p.tables e below (s₁.setTop (entryFrame m #[.ref a, .ref b, .int (Int32.ofNat o), .int (Int32.ofNat len), .null] 6)) (T11.setTop (mkF m 48 #[.val (.ref a), .val (.ref b), .val (.int (Int32.ofNat o)), .val (.int (Int32.ofNat len)), .val .null, .val (.ref s.heap.size)] [.int 0, .ref a])) := g11
  obtain ⟨T13, X13, p13, bl13, sl13, st13⟩ := X11.finit hexec hown (wk W (.fieldLink "java/lang/String" 15 "java/lang/String" "coder" "B")) (Or.inr ⟨_, (wk W (.laysFinal "java/lang/String" "java/lang/String" "coder" "B"))⟩) (Or.inl ⟨rfl, hnm⟩) f2 (Or.inl rfl) hB11 (t := .byte) (by decide +kernel) rfl (g := (mkF m 48 #[.val (.ref a), .val (.ref b), .val (.int (Int32.ofNat o)), .val (.int (Int32.ofNat len)), .val .null, .val (.ref s.heap.size)] [.int 0, .ref a])) rfl (rest := []) rfl (hb hbytes d48)
  have c14 : Steps p.tables e below (s₁.setTop (entryFrame m #[.ref a, .ref b, .int (Int32.ofNat o), .int (Int32.ofNat len), .null] 6)) (T13.setTop (mkF m 54 #[.val (.ref a), .val (.ref b), .val (.int (Int32.ofNat o)), .val (.int (Int32.ofNat len)), .val .null, .val (.ref s.heap.size)] [.ref s.heap.size, .ref a])) := (c12.trans (st13 _ (Steps.refl _))).trans (by
    refine XS.aloadN X13.here hexec rfl (hb hbytes d51) rfl rfl ?_
    refine XS.aload X13.here hexec rfl (hb hbytes d52) rfl rfl ?_
    exact Steps.refl _)
  obtain ⟨T15, X15, p15, bl15, sl15, st15⟩ := X13.finit hexec hown (wk W (.fieldLink "java/lang/String" 9 "java/lang/String" "value" "[B")) (Or.inr ⟨_, (wk W (.laysFinal "java/lang/String" "java/lang/String" "value" "[B"))⟩) (Or.inl ⟨rfl, hnm⟩) f1 (Or.inl rfl) bl13 (t := (.array .byte)) (by decide +kernel) rfl (g := (mkF m 54 #[.val (.ref a), .val (.ref b), .val (.int (Int32.ofNat o)), .val (.int (Int32.ofNat len)), .val .null, .val (.ref s.heap.size)] [.ref s.heap.size, .ref a])) rfl (rest := []) rfl (hb hbytes d54)
  have c16 : Steps p.tables e below (s₁.setTop (entryFrame m #[.ref a, .ref b, .int (Int32.ofNat o), .int (Int32.ofNat len), .null] 6)) (T15.setTop (mkF m 57 #[.val (.ref a), .val (.ref b), .val (.int (Int32.ofNat o)), .val (.int (Int32.ofNat len)), .val .null, .val (.ref s.heap.size)] [])) := c14.trans (st15 _ (Steps.refl _))
  have ap := apart (Or.inr ⟨_, (wk W (.laysFinal "java/lang/String" "java/lang/String" "value" "[B"))⟩) (Or.inr ⟨_, (wk W (.laysFinal "java/lang/String" "java/lang/String" "coder" "B"))⟩) f1 f2 (t₁ := .array .byte) (t₂ := .byte) (by decide +kernel) (by decide +kernel) (by decide)
  have al := X8.warmed.alike.symm.trans X15.warmed.alike
  have n7 : T11.heap[s.heap.size]? = some N := by rw [q11]; exact n1.1
  exact ⟨T15, none, _, _, _, X15, by simp, rfl, by omega, (fun _ => rfl), ⟨rfl, _, N, bl15, ((Same.refl D _).set _ (by simp)).set _ (by simp), sl15, (Cell.slots_setSlot_ne _ ap).trans sl13, n1.keep al (p15.other hne (p13.other hne n7)), n2, by rw [al.findClass]; exact n3, n4, n5, fun y c h1 h2 => p15.other h1 (p13.other h1 (by rw [q11]; exact n6 y c h2)), by rw [p15.2.2, p13.2.2, q11]; exact z8⟩, fun fs hl => c16.trans (X15.returnOut hexec hret (hb hbytes d57) hl)⟩
end New4
namespace New1
def yN : MethodName := ⟨"java/lang/String", "<init>", "([C)V"⟩
abbrev yB : ByteArray := jdk_42_method_3_code
theorem d0 : decode yB 0 = .ok (.aload_n 0, 1) := by decide +kernel
theorem d1 : decode yB 1 = .ok (.aload_n 1, 1) := by decide +kernel
theorem d2 : decode yB 2 = .ok (.iconst 0, 1) := by decide +kernel
theorem d3 : decode yB 3 = .ok (.aload_n 1, 1) := by decide +kernel
theorem d4 : decode yB 4 = .ok (.arraylength, 1) := by decide +kernel
theorem d5 : decode yB 5 = .ok (.aconst_null, 1) := by decide +kernel
theorem d6 : decode yB 6 = .ok (.invokespecial 27, 3) := by decide +kernel
theorem d9 : decode yB 9 = .ok (.return_, 1) := by decide +kernel
def site : List Cond := [New4.tab] ++ initW "java/lang/String" 27 New4.yN
def tab : Cond := tabOf yN yB 2 none site
def P (a : Addr) (D : Cell) (fV fC : Field) (b : Addr) (A : Cell) (z : Int32) (args : Array Value) (s : State) : Prop := args = #[.ref a, .ref b] ∧ Blank "java/lang/String" a D s ∧ Found "java/lang/String" "value" "[B" fV s ∧ Found "java/lang/String" "coder" "B" fC s ∧ Ch b A s ∧ StaticIs s "java/lang/String" "COMPACT_STRINGS" "Z" (.int z) ∧ ¬ z = 0 ∧ 0 < A.slots.size ∧ A.slots.size ≤ 536870912 ∧ ∀ i, i < A.slots.size → ¬ 255 < cv A i
def E (a : Addr) (D : Cell) (fV fC : Field) (A : Cell) (r : Option Value) (s u : State) : Prop := Got a D fV fC A 0 A.slots.size r s u
/-- new String(chars), not empty, no char above 255: a Latin-1 String of their low bytes -/
theorem law (l : Launch) (a : Addr) (D : Cell) (fV fC : Field) (b : Addr) (A : Cell) (z : Int32) : Law l yN 2 1 3 52 yB 2 none site (P a D fV fC b A z) (E a D fV fC A) [⟨a, fC.slot⟩, ⟨a, fV.slot⟩] 1 A.slots.size := by
  refine Law.of_walk (plainFor_of_name (by decide +kernel)) (by decide +kernel) (by decide +kernel) (by decide) (fun _ _ h => by rw [h.1]; rfl) (fun _ U U' hal hh h => ⟨h.1, h.2.1.mv hal hh, h.2.2.1.al hal, h.2.2.2.1.al hal, h.2.2.2.2.1.mv hal hh, h.2.2.2.2.2.1.there hal hh, h.2.2.2.2.2.2⟩) (fun r U U' V V' h1 hal h2 h => Got.mv r U U' V V' h1 hal h2 h) ?_
  intro p e s m args below meth c s₁ X0 hexec hbytes hml hret hlk hnm hown hh0 W hP
  obtain ⟨rfl, hB, f1, f2, hA, s1, hz, l0, l2, hp⟩ := hP
  have c1 : Steps p.tables e below (s₁.setTop (entryFrame m #[.ref a, .ref b] 2)) (s₁.setTop (mkF m 0 #[.val (.ref a), .val (.ref b)] [])) := entry rfl
  have c2 : Steps p.tables e below (s₁.setTop (entryFrame m #[.ref a, .ref b] 2)) (s₁.setTop (mkF m 6 #[.val (.ref a), .val (.ref b)] [.null, .int (Int32.ofNat A.slots.size), .int 0, .ref b, .ref a])) := c1.trans (by
    refine XS.aloadN X0.here hexec rfl (hb hbytes d0) rfl rfl ?_
    refine XS.aloadN X0.here hexec rfl (hb hbytes d1) rfl rfl ?_
    refine iconstV X0.here hexec rfl 0 (hb hbytes d2) (by decide) ?_
    refine XS.aloadN X0.here hexec rfl (hb hbytes d3) rfl rfl ?_
    refine X0.alen hexec (hA.1.mv X0.warmed.alike hh0) rfl rfl (hb hbytes d4) ?_
    refine XS.aconstNull X0.here hexec rfl (hb hbytes d5) ?_
    exact Steps.refl _)
  obtain ⟨v3, T3, X3, E3, g3⟩ := X0.callN hexec (New4.law l a D fV fC b A z 0 A.slots.size) rfl hown (wks W (initW "java/lang/String" 27 New4.yN)) (W New4.tab (by simp only [site, List.mem_cons, List.mem_append, true_or, or_true])) (W := 0) (Nat.le_of_ble_eq_true rfl) (Nat.le_of_ble_eq_true rfl) (Nat.le_refl _) (by show 0 + A.slots.size ≤ A.slots.size; omega) (g := (mkF m 6 #[.val (.ref a), .val (.ref b)] [.null, .int (Int32.ofNat A.slots.size), .int (Int32.ofNat 0), .ref b, .ref a])) rfl (by rw [hml]; rfl) c2 (argsL := [.ref b, .int (Int32.ofNat 0), .int (Int32.ofNat A.slots.size), .null]) (rest := []) rfl rfl (by show 2 * 0 + 0 ≤ _; decide) (hb hbytes d6) (⟨rfl, hB.mv X0.warmed.alike hh0, f1.al X0.warmed.alike, f2.al X0.warmed.alike, hA.mv X0.warmed.alike hh0, s1.there X0.warmed.alike hh0, hz, l0, by omega, l2, fun i hi => by rw [Nat.zero_add]; exact hp i hi⟩)
  have e0 := Got.mv _ s₁ s _ _ hh0.symm (Vm.Alike.refl _) rfl E3
  obtain rfl := e0.1
  have c4 : Steps p.tables e below (s₁.setTop (entryFrame m #[.ref a, .ref b] 2)) (T3.setTop (mkF m 9 #[.val (.ref a), .val (.ref b)] [])) := g3
  exact ⟨T3, none, _, _, _, X3, by simp, rfl, by omega, (fun _ => rfl), e0, fun fs hl => c4.trans (X3.returnOut hexec hret (hb hbytes d9) hl)⟩
theorem pays {l : Launch} {R : Room} {p : Program} {e : Env} {below : List Frame} {s : State} {sargs : Array Value} {len W : Nat} (a : Addr) (D : Cell) (fV fC : Field) (b : Addr) (A : Cell) (z : Int32) (htab : tab.before sargs s = true) (hfr : 4 ≤ R.frames) (hlo : W + 65 ≤ R.locals) :
    Back l R p e below s sargs yN len W (fun A₁ a₁ => A₁.cells + 1 ≤ R.cells ∧ A₁.slots + A.slots.size ≤ R.slots ∧ P a D fV fC b A z a₁ A₁.U) (fun A₁ _ v₁ B₁ => E a D fV fC A v₁ A₁.U B₁.U ∧ B₁.locs = A₁.locs ++ [⟨a, fC.slot⟩, ⟨a, fV.slot⟩] ∧ B₁.cells = A₁.cells + 1 ∧ B₁.slots = A₁.slots + A.slots.size) :=
  (law l a D fV fC b A z).pays htab hfr (by omega)
end New1
end StrChars
namespace StrChars.Road
open Jvm Sem ClassFile Op Lib Jvm.Stand Jvm.Free Jvm.Free.XT
open Jvm.Lib.Cold (StaticIs)
abbrev ST : String := "java/lang/String"
/-- every table word that New1's law asks, flat -/
abbrev words : List Jvm.Cond := [.code New1.yN New1.yB 2 none, .initialized ST, .methodLink ST 27 New4.yN, .instanceMethod New4.yN,
  .code New4.yN New4.yB 6 none, .fieldLink ST 38 ST "COMPACT_STRINGS" "Z", .laysFinal ST ST "value" "[B", .fieldLink ST 9 ST "value" "[B", .laysFinal ST ST "coder" "B", .fieldLink ST 15 ST "coder" "B",
  .methodLink ST 1 Lib.objectInit, .instanceMethod Lib.objectInit, .code Lib.objectInit ⟨#[0xb1]⟩ 1 none, .methodLink ST 177 Cmp3.yN, .static Cmp3.yN, .methodLink ST 47 CodL.yN, .static CodL.yN,
  .code Cmp3.yN Cmp3.yB 6 (some (.array .byte)), .initialized U16, .arrayClass .byte, .methodLink U16 115 Cmp5.yN, .static Cmp5.yN, .code Cmp5.yN Cmp5.yB 7 (some .int), .code CodL.yN CodL.yB 2 (some .byte)]
theorem tab_of {a : Array Value} {s : State} (h : ∀ w ∈ words, w.before a s = true) : New1.tab.before a s = true := by
  have h5 : Cmp5.tab.before a s = true := unparts (wk h (.code Cmp5.yN Cmp5.yB 7 (some .int))) (wks h (.initialized Cmp5.yN.cls :: Cmp5.site))
  have hc : CodL.tab.before a s = true := unparts (wk h (.code CodL.yN CodL.yB 2 (some .byte))) (wks h (.initialized CodL.yN.cls :: CodL.site))
  have q5 : ∀ w ∈ Cmp5.tab :: words, w.before a s = true := fun w hw => (List.mem_cons.mp hw).elim (fun e => e ▸ h5) (h w)
  have h3 : Cmp3.tab.before a s = true := unparts (wk q5 (.code Cmp3.yN Cmp3.yB 6 (some (.array .byte)))) (wks q5 (.initialized Cmp3.yN.cls :: Cmp3.site))
  have q3 : ∀ w ∈ Cmp3.tab :: CodL.tab :: words, w.before a s = true := fun w hw => (List.mem_cons.mp hw).elim (fun e => e ▸ h3) fun hw => (List.mem_cons.mp hw).elim (fun e => e ▸ hc) (h w)
  have h4 : New4.tab.before a s = true := unparts (wk q3 (.code New4.yN New4.yB 6 none)) (wks q3 (.initialized New4.yN.cls :: New4.site))
  have q4 : ∀ w ∈ New4.tab :: words, w.before a s = true := fun w hw => (List.mem_cons.mp hw).elim (fun e => e ▸ h4) (h w)
  exact unparts (wk q4 (.code New1.yN New1.yB 2 none)) (wks q4 (.initialized New1.yN.cls :: New1.site))
/-- the words ride from the start Z to the walk's own state -/
theorem moved {Z s : State} {a0 args : Array Value} (hZ : Z.Warmed39 s.vm) (hw : ∀ d ∈ words, d.before a0 Z = true) : ∀ d ∈ words, d.before args s = true := fun d hd => by
  have q := hw d hd
  have t : ∀ d ∈ words, d = .arrayClass .byte ∨ (d.onTables && d.keepsFace) = true := by decide +kernel
  rcases t d hd with rfl | t
  · exact RoadKit.mvA hZ q
  · exact RoadKit.mv hZ q t
/-- WHAT COMES BACK, over the tables of the start Z: h the heap at the call, h' behind it -/
def Q (Z : State) (x : Addr) (A : Cell) (h : Heap) (v : Option Value) (h' : Heap) (L : List Loc) : Prop := v = none ∧ (∀ y ∈ L, y.base = x) ∧ RoadKit.Keep h h' [x] ∧ h'.size = h.size + 1 ∧ RoadKit.Exa Z h' x ST ∧ RoadKit.Fld Z h' x ST "value" "[B" (.ref h.size) ∧ RoadKit.Fld Z h' x ST "coder" "B" (.int 0) ∧
  (∃ V : Cell, RoadKit.Arr Z h' h.size V .byte ∧ V.vm = .none ∧ Z.vm.findClass "[B" = some V.cls ∧ V.slots.size = A.slots.size ∧ ∀ j, j < A.slots.size → V.slots[j]? = some (.int (lo8 (cv A j)))) ∧
  ∀ (O n d : String) (w : Value), RoadKit.Fld Z h x O n d w → RoadKit.slotOf Z O n d ≠ RoadKit.slotOf Z ST "value" "[B" → RoadKit.slotOf Z O n d ≠ RoadKit.slotOf Z ST "coder" "B" → RoadKit.Fld Z h' x O n d w
/-- **new String(chars) AT A CALL, IN THE ROAD'S FORM**: for specialBack behind newO: x the fresh String, b the char[] with the cell A -/
theorem back {p : Program} {l : Launch} {e : Env} {R : Room} {s : State} {args : Array Value} {below : List Frame} {len W : Nat} {Z : State} {a0 : Array Value} {h : Heap} (hZ : Z.Warmed39 s.vm) (hw : ∀ d ∈ words, d.before a0 Z = true) {kI : Nat} (wi : (Jvm.Cond.instantiable ST kI).before a0 Z = true)
    {x b : Addr} {A : Cell} {z : Int32} {v0 c0 : Value} (E : RoadKit.Exa Z h x ST) (V : RoadKit.Fld Z h x ST "value" "[B" v0) (C : RoadKit.Fld Z h x ST "coder" "B" c0) (K : RoadKit.Arr Z h b A .char) (hty : Typed .char A) (S : RoadKit.Sta Z h ST "COMPACT_STRINGS" "Z" (.int z)) (hz : ¬ z = 0)
    (l0 : 0 < A.slots.size) (l2 : A.slots.size ≤ 536870912) (hp : ∀ i, i < A.slots.size → ¬ 255 < cv A i) (hfr : 4 ≤ R.frames) (hlo : W + 65 ≤ R.locals) :
    Back l R p e below s args New1.yN len W (fun P a => a = #[.ref x, .ref b] ∧ P.U.heap = h ∧ P.cells + 1 ≤ R.cells ∧ P.slots + A.slots.size ≤ R.slots)
      (fun P _ v B => ∃ L, Q Z x A h v B.U.heap L ∧ B.locs = P.locs ++ L ∧ B.cells = P.cells + 1 ∧ B.slots = P.slots + A.slots.size) := by
  intro m meth c P g ig mk a X hg hsize hdg hW hn hp'
  obtain ⟨rfl, rfl, r1, r2⟩ := hp'
  have al : Z.vm.Alike P.U.vm := hZ.alike.trans X.warmed.alike
  obtain ⟨D, cfV, kV, iV, fV, hD, gV, stV, knV, obV, asV, slV⟩ := id V
  obtain ⟨D', cfC, kC, iC, fC, hD', gC, stC, -, -, asC, slC⟩ := id C
  cases hD.symm.trans hD'
  obtain ⟨D2, kD, e1, e2, e3, e4, e5⟩ := id E
  cases hD.symm.trans e1
  obtain ⟨c2, k2, i1, i2, i3, -⟩ := Cond.instantiable_spec wi
  cases e2.symm.trans i1
  cases e3.symm.trans i2
  obtain ⟨kU, u1, u2⟩ := al.2.2 _ _ e3
  have hB : Blank ST x D P.U := ⟨hD, ⟨knV, fun q hq => by rw [hq] at obV; cases obV⟩, by rw [al.findClass]; exact e2, kU, u1, by rw [u2]; exact i3, by rw [u2]; exact e5 i3⟩
  have F1 : Found ST "value" "[B" fV P.U := ⟨SBG.found_only al ⟨cfV, kV, iV, gV⟩, stV⟩
  have F2 : Found ST "coder" "B" fC P.U := ⟨SBG.found_only al ⟨cfC, kC, iC, gC⟩, stC⟩
  have hA : Ch b A P.U := ⟨⟨K.1, State.isArrayOf_alike al K.2.1, K.2.2, by omega⟩, hty⟩
  have hS : StaticIs P.U ST "COMPACT_STRINGS" "Z" (.int z) := by
    obtain ⟨cfS, iS, kS, fS, st, cS, t1, t2, t3, t4, t5, t6, t7⟩ := S
    exact StaticIs.there (s := { Z with heap := P.U.heap }) ⟨cfS, iS, kS, fS, st, cS, t1, t2, t3, t4, t5, (fun q => by rw [q] at t6; cases t6), t7⟩ al rfl
  obtain ⟨v, B, X', ⟨⟨hv, E', V', q1, q2, q3, q4, q5, q6, q7, q8, q9, q10, q11⟩, hl, hc, hs⟩, st⟩ := New1.pays x D fV fC b A z (tab_of (moved hZ hw)) hfr hlo m meth c P g ig mk _ X hg hsize hdg hW hn ⟨r1, r2, rfl, hB, F1, F2, hA, hS, hz, l0, l2, hp⟩
  have al' : Z.vm.Alike B.U.vm := hZ.alike.trans X'.warmed.alike
  have hsz : E'.slots.size = D.slots.size := by
    obtain ⟨-, -, -, kB, w1, w2, w3⟩ := q1
    obtain ⟨kB', y1, y2⟩ := al'.2.2 _ _ e3
    rw [q2.2.1] at w1
    cases w1.symm.trans y1
    rw [w3, e5 i3, y2]
  refine ⟨v, B, X', ⟨_, ⟨hv, ?_, ⟨by omega, fun y cy hy hn' => q10 y cy (by simpa using hn') hy, fun y cy hy => ?_⟩, q11, ⟨E', _, q1.1, by rw [q2.2.1]; exact e2, by rw [q2.2.1]; exact e3, by rw [q2.1]; exact obV, fun _ => by rw [hsz]; exact e5 i3⟩,
    ⟨E', cfV, kV, iV, fV, q1.1, gV, stV, by rw [q2.1]; exact knV, by rw [q2.1]; exact obV, by rw [q2.2.1]; exact asV, q3⟩, ⟨E', cfC, kC, iC, fC, q1.1, gC, stC, by rw [q2.1]; exact knV, by rw [q2.1]; exact obV, by rw [q2.2.1]; exact asC, q4⟩,
    ⟨V', ⟨q5.1, State.isArrayOf_alike al'.symm q5.2.1, q5.2.2.1⟩, q6, by rw [← al'.findClass]; exact q7, q8, fun j hj => by have := q9 j hj; rwa [Nat.zero_add] at this⟩, fun O n d w F n1 n2 => ?_⟩, hl, hc, hs⟩, st⟩
  · intro y hy
    simp only [List.mem_cons, List.not_mem_nil, or_false] at hy
    rcases hy with rfl | rfl <;> rfl
  · by_cases q : y = x
    · subst q
      cases hD.symm.trans hy
      exact ⟨E', q1.1, q2.2.1, q2.1, hsz⟩
    · exact ⟨cy, q10 y cy q hy, rfl, rfl, rfl⟩
  · obtain ⟨D3, cf, k, i, f, g1, g2, g3, g4, g5, g6, g7⟩ := F
    cases hD.symm.trans g1
    simp only [RoadKit.slotOf, g2, gV, gC, Option.map_some, Option.getD_some] at n1 n2
    exact ⟨E', cf, k, i, f, q1.1, g2, g3, by rw [q2.1]; exact g4, by rw [q2.1]; exact g5, by rw [q2.2.1]; exact g6, by rw [q2.2.2 f.slot (by simp [n1, n2])]; exact g7⟩
end StrChars.Road
namespace StrChars.Road
open Jvm Sem ClassFile Op Lib Jvm.Stand Jvm.Free Jvm.Free.XT
/-- WHAT COMES BACK, the byte[] as a list of values -/
def QA (Z : State) (x : Addr) (zn : Int32) (cs : List Int32) (h : Heap) (v : Option Value) (h' : Heap) (L : List Loc) : Prop := v = none ∧ (∀ y ∈ L, y.base = x) ∧ RoadKit.Keep h h' [x] ∧ h'.size = h.size + 1 ∧ RoadKit.Exa Z h' x ST ∧ RoadKit.Fld Z h' x ST "value" "[B" (.ref h.size) ∧ RoadKit.Fld Z h' x ST "coder" "B" (.int 0) ∧
  (∃ kb, Z.vm.findClass "[B" = some kb ∧ RoadKit.Arv Z h' h.size kb .byte zn (cs.map fun c => .int (lo8 c)) (.int 0)) ∧
  ∀ (O n d : String) (w : Value), RoadKit.Fld Z h x O n d w → RoadKit.slotOf Z O n d ≠ RoadKit.slotOf Z ST "value" "[B" → RoadKit.slotOf Z O n d ≠ RoadKit.slotOf Z ST "coder" "B" → RoadKit.Fld Z h' x O n d w
/-- **new String(chars) AT A CALL, THE ARRAYS AS LISTS**: the char[] at b holds cs, not empty, no char above 255 -/
theorem backArv {p : Program} {l : Launch} {e : Env} {R : Room} {s : State} {args : Array Value} {below : List Frame} {len W : Nat} {Z : State} {a0 : Array Value} {h : Heap} (hZ : Z.Warmed39 s.vm) (hw : ∀ d ∈ words, d.before a0 Z = true) {kI : Nat} (wi : (Jvm.Cond.instantiable ST kI).before a0 Z = true)
    {x b : Addr} {k : ClassId} {zn z : Int32} {cs : List Int32} {dv v0 c0 : Value} (E : RoadKit.Exa Z h x ST) (V : RoadKit.Fld Z h x ST "value" "[B" v0) (C : RoadKit.Fld Z h x ST "coder" "B" c0) (K : RoadKit.Arv Z h b k .char zn (cs.map Value.int) dv) (S : RoadKit.Sta Z h ST "COMPACT_STRINGS" "Z" (.int z)) (hz : ¬ z = 0)
    (hlen : zn.toNatClampNeg = cs.length) (h0 : 0 < cs.length) (hbig : cs.length ≤ 536870912) (hall : ∀ c ∈ cs, ¬ 255 < c) (hfr : 4 ≤ R.frames) (hlo : W + 65 ≤ R.locals) :
    Back l R p e below s args New1.yN len W (fun P a => a = #[.ref x, .ref b] ∧ P.U.heap = h ∧ P.cells + 1 ≤ R.cells ∧ P.slots + cs.length ≤ R.slots)
      (fun P _ v B => ∃ L, QA Z x zn cs h v B.U.heap L ∧ B.locs = P.locs ++ L ∧ B.cells = P.cells + 1 ∧ B.slots = P.slots + cs.length) := by
  obtain ⟨A, K1, K2, K3, K4, K5, K6⟩ := K
  have e : A.slots.size = cs.length := K3.trans hlen
  have hat : ∀ (i : Nat) (hi : i < cs.length), A.slots[i]? = some (.int cs[i]) := fun i hi => by rw [K5 i (by omega)]; simp [List.getD_eq_getElem?_getD, hi]
  have hcv : ∀ (i : Nat) (hi : i < cs.length), cv A i = cs[i] := fun i hi => by unfold cv; rw [hat i hi]
  have hty : Typed .char A := fun i v hv => by
    have hi : i < A.slots.size := (Array.getElem?_eq_some_iff.mp hv).1
    have q := K5 i hi
    rw [hv] at q
    rw [Option.some.inj q]
    exact K6 i hi
  refine Back.mono (back hZ hw wi E V C K1 hty S hz (by omega) (by omega) (fun i hi => by rw [hcv i (by omega)]; exact hall _ (List.getElem_mem _)) hfr hlo) (fun P a hp => ⟨hp.1, hp.2.1, hp.2.2.1, by rw [e]; exact hp.2.2.2⟩) (fun P a v B hp hq => ?_)
  obtain ⟨L, ⟨q1, q2, q3, q4, q5, q6, q7, ⟨V', v1, v2, v3, v4, v5⟩, q9⟩, hl, hc, hs⟩ := hq
  refine ⟨L, ⟨q1, q2, q3, q4, q5, q6, q7, ⟨V'.cls, v3, V', v1, rfl, by rw [v4, e, hlen], K4, fun i hi => ?_, fun i hi => ?_⟩, q9⟩, hl, hc, by rw [hs, e]⟩
  · have hi' : i < cs.length := by omega
    rw [v5 i (by omega), hcv i hi']; simp [List.getD_eq_getElem?_getD, hi']
  · have hi' : i < cs.length := by omega
    simp only [List.getD_eq_getElem?_getD, List.getElem?_map, List.getElem?_eq_getElem hi', Option.map_some, Option.getD_some]
    exact fits_lo8 _
end StrChars.Road
namespace StrChars.Road
open Jvm Sem ClassFile Op Lib Jvm.Stand Jvm.Free Jvm.Free.XT
/-- WHAT COMES BACK, in the writer's own shape -/
def QV (Z : State) (x : Addr) (N : Int32) (bs : List Int32) (h : Heap) (n0 : Nat) (v : Option Value) (h' : Heap) (L : List Loc) : Prop := v = none ∧ RoadKit.Fr n0 L ∧ RoadKit.Keep h h' [x] ∧ RoadKit.Exa Z h' x ST ∧ RoadKit.Fld Z h' x ST "coder" "B" (.int 0) ∧
  ∃ (t : Addr) (kb : ClassId), n0 ≤ t ∧ h.size ≤ t ∧ ¬ t = x ∧ RoadKit.Fld Z h' x ST "value" "[B" (.ref t) ∧ RoadKit.Arv Z h' t kb .byte N (bs.map Value.int) (.int 0)
/-- **new String(chars) AT A CALL, FOR THE WRITER**: a char[] of n known ints, each 0 to 255 -/
theorem backV {p : Program} {l : Launch} {e : Env} {R : Room} {s : State} {args : Array Value} {below : List Frame} {len W : Nat} {Z : State} {a0 : Array Value} {h : Heap} (hZ : Z.Warmed39 s.vm) (hw : ∀ d ∈ words, d.before a0 Z = true) {kI : Nat} (wi : (Jvm.Cond.instantiable ST kI).before a0 Z = true)
    {x b : Addr} {kC : ClassId} {cs bs : List Int32} {d v0 c0 : Value} {z N : Int32} {n n0 : Nat} (hx0 : n0 ≤ x) (hh0 : n0 ≤ h.size) (E : RoadKit.Exa Z h x ST) (V : RoadKit.Fld Z h x ST "value" "[B" v0) (C : RoadKit.Fld Z h x ST "coder" "B" c0) (K : RoadKit.Arv Z h b kC .char N (cs.map Value.int) d) (S : RoadKit.Sta Z h ST "COMPACT_STRINGS" "Z" (.int z)) (hz : ¬ z = 0)
    (hn : cs.length = n) (hN : N = Int32.ofNat n) (l0 : 0 < n) (l2 : n ≤ 4000) (hp : ∀ c ∈ cs, ¬ c < 0 ∧ ¬ (255 : Int32) < c) (hb : bs = cs.map (fun c => c.toInt8.toInt32)) (hfr : 4 ≤ R.frames) (hlo : W + 65 ≤ R.locals) :
    Back l R p e below s args (⟨"java/lang/String", "<init>", "([C)V"⟩ : MethodName) len W (fun P a => a = #[.ref x, .ref b] ∧ P.U.heap = h ∧ P.cells + 1 ≤ R.cells ∧ P.slots + n ≤ R.slots)
      (fun P _ v B => ∃ L, QV Z x N bs h n0 v B.U.heap L ∧ B.locs = P.locs ++ L ∧ B.cells = P.cells + 1 ∧ B.slots = P.slots + n) := by
  subst hn hN hb
  refine Back.mono (backArv hZ hw wi E V C K S hz (n32 (by omega)) l0 (by omega) (fun c hc => (hp c hc).2) hfr hlo) (fun P a hp => hp) (fun P a v B hp hq => ?_)
  obtain ⟨L, ⟨q1, q2, q3, q4, q5, q6, q7, ⟨kb, v1, v2⟩, q9⟩, hl, hc, hs⟩ := hq
  exact ⟨L, ⟨q1, fun y hy => by rw [q2 y hy]; exact hx0, q3, q5, q7, h.size, kb, hh0, Nat.le_refl _, Nat.ne_of_gt E.lt, q6, by rw [List.map_map]; exact v2⟩, hl, hc, hs⟩
end StrChars.Road
end Jvm.Pilot.@@N@@

namespace Jvm.Pilot.@@N@@
open Jvm Jvm.ClassFile Sem Op Lib Jvm.Free Jvm.Stand Jvm.LawKit Jvm.RoadKit Bundle Jvm.Pilot.@@N@@.Jvm.D
section OwnKit
variable {p : Program} {l : Launch} {e : Env} {R : Room} {s : State} {m : MethodId} {args : Array Value} {below : List Frame} {meth : Method} {c : Code} {T : State} {locs : List Loc} {cells slots : Nat} {Z : State} {a0 : Array Value} {h : Heap} {n0 : Nat} {G : State → Outcome → Prop} {kc ks : Nat} {Q : Option Value → Heap → Prop}
/-- what is left of a walk: from U the body comes to an end of which G holds -/
def own_Go (tb : Tables) (e : Env) (below : List Frame) (G : State → Outcome → Prop) (U : State) : Prop := ∃ s₂ o, Steps tb e below U s₂ ∧ s₂.status = .running ∧ Ended s₂ below o ∧ G s₂ o
theorem own_go {tb : Tables} {U U' : State} (f : ∀ t, Steps tb e below U' t → Steps tb e below U t) (k : own_Go tb e below G U') : own_Go tb e below G U := by
  obtain ⟨a, b, c, d⟩ := k
  exact ⟨a, b, f _ c, d⟩
/-- where the run stands: its heap is h, nothing below n0 has been written -/
def own_At (p : Program) (l : Launch) (e : Env) (R : Room) (s : State) (m : MethodId) (args : Array Value) (below : List Frame) (meth : Method) (c : Code) (n0 : Nat) (T : State) (h : Heap) (cells slots : Nat) : Prop :=
  ∃ locs, Stand p l e R s m args below meth c T locs cells slots ∧ T.heap = h ∧ Fr n0 locs
theorem own_At.here (A : own_At p l e R s m args below meth c n0 T h cells slots) : At T m c below := by obtain ⟨_, X, -, -⟩ := A; exact X.here
theorem own_At.heap (A : own_At p l e R s m args below meth c n0 T h cells slots) : T.heap = h := by obtain ⟨_, -, q, -⟩ := A; exact q
/-- the end of a body: it returns v, Q holds of v and the heap -/
def own_End (n0 : Nat) (s : State) (kc ks : Nat) (Q : Option Value → Heap → Prop) : State → Outcome → Prop := fun s₂ o => ∃ v L, o = .returned v ∧ (Q v s₂.heap ∧ Fr n0 L) ∧ FrameEnd s o s₂ L kc ks
theorem own_leave (A : own_At p l e R s m args below meth c n0 T h cells slots) {v : Option Value} (hv : meth.sig.returnType = none → v = none) (hlk : meth.locks = false) (hc : cells ≤ kc) (hs : slots ≤ ks) (q : Q v h) {U : State}
    (st : ∀ locs, Stand p l e R s m args below meth c T locs cells slots → ∀ fs, (∀ (f : JFrame) (acts : List Action), f.method = m → f.locked = none → f.entered = [] → (doReturn e (T.setTop f) acts v).1 = T.setFrames fs) → Steps p.tables e below U (T.setFrames fs)) : own_Go p.tables e below (own_End n0 s kc ks Q) U := by
  obtain ⟨locs, X, rfl, N⟩ := A
  obtain ⟨fs, hr, hrun, hended, hW, hsame⟩ := X.leave hv hlk
  exact ⟨_, _, st locs X fs hr, hrun, hended, _, _, rfl, ⟨q, N⟩, ⟨_, rfl⟩, hW, hsame.mono hc hs⟩
theorem own_retI (A : own_At p l e R s m args below meth c n0 T h cells slots) (hx : p.tables.exec = Jvm.exec) (hret : meth.sig.returnType = some .int) (hlk : meth.locks = false) (hc : cells ≤ kc) (hs : slots ≤ ks) {pc : Nat} {Ls : Array Slot} {z : Int32} {rest : List Value} (hd : decode c.code pc = .ok (.ireturn, 1)) (q : Q (some (.int z)) h) :
    own_Go p.tables e below (own_End n0 s kc ks Q) (T.setTop (mkF m pc Ls (.int z :: rest))) :=
  own_leave A (fun q => by rw [hret] at q; cases q) hlk hc hs q fun _ X _ hr => retOut X hx hret rfl (Or.inl ⟨rfl, Or.inl rfl, _, rfl⟩) hd hr
theorem own_retN (A : own_At p l e R s m args below meth c n0 T h cells slots) (hx : p.tables.exec = Jvm.exec) {t : FieldType} (hret : meth.sig.returnType = some t) (ht : t = .boolean ∨ t = .byte ∨ t = .char ∨ t = .short) (hlk : meth.locks = false) (hc : cells ≤ kc) (hs : slots ≤ ks) {pc : Nat} {Ls : Array Slot} {z : Int32} {rest : List Value} (hd : decode c.code pc = .ok (.ireturn, 1)) (q : Q (some (.int (nar t z))) h) :
    own_Go p.tables e below (own_End n0 s kc ks Q) (T.setTop (mkF m pc Ls (.int z :: rest))) :=
  own_leave A (fun q => by rw [hret] at q; cases q) hlk hc hs q fun _ X _ hr => retN X hx hret ht hd hr
theorem own_retJ (A : own_At p l e R s m args below meth c n0 T h cells slots) (hx : p.tables.exec = Jvm.exec) (hret : meth.sig.returnType = some .long) (hlk : meth.locks = false) (hc : cells ≤ kc) (hs : slots ≤ ks) {pc : Nat} {Ls : Array Slot} {z : Int64} {rest : List Value} (hd : decode c.code pc = .ok (.lreturn, 1)) (q : Q (some (.long z)) h) :
    own_Go p.tables e below (own_End n0 s kc ks Q) (T.setTop (mkF m pc Ls (.long z :: rest))) :=
  own_leave A (fun q => by rw [hret] at q; cases q) hlk hc hs q fun _ X _ hr => retOut X hx hret rfl (Or.inr (Or.inl ⟨rfl, rfl, _, rfl⟩)) hd hr
theorem own_retD (A : own_At p l e R s m args below meth c n0 T h cells slots) (hx : p.tables.exec = Jvm.exec) (hret : meth.sig.returnType = some .double) (hlk : meth.locks = false) (hc : cells ≤ kc) (hs : slots ≤ ks) {pc : Nat} {Ls : Array Slot} {z : UInt64} {rest : List Value} (hd : decode c.code pc = .ok (.dreturn, 1)) (q : Q (some (.double z)) h) :
    own_Go p.tables e below (own_End n0 s kc ks Q) (T.setTop (mkF m pc Ls (.double z :: rest))) :=
  own_leave A (fun q => by rw [hret] at q; cases q) hlk hc hs q fun _ X _ hr => retOut X hx hret rfl (Or.inr (Or.inr (Or.inl ⟨rfl, rfl, _, rfl⟩))) hd hr
theorem own_retA (A : own_At p l e R s m args below meth c n0 T h cells slots) (hx : p.tables.exec = Jvm.exec) {t : FieldType} (hret : meth.sig.returnType = some t) (ht : t.isReference = true) (hlk : meth.locks = false) (hc : cells ≤ kc) (hs : slots ≤ ks) {pc : Nat} {Ls : Array Slot} {w : Value} (hw : w.isRef = true) {rest : List Value} (hd : decode c.code pc = .ok (.areturn, 1)) (q : Q (some w) h) :
    own_Go p.tables e below (own_End n0 s kc ks Q) (T.setTop (mkF m pc Ls (w :: rest))) :=
  own_leave A (fun q => by rw [hret] at q; cases q) hlk hc hs q fun _ X _ hr => retOut X hx hret (by cases t <;> first | rfl | cases ht) (Or.inr (Or.inr (Or.inr (Or.inr ⟨rfl, ht, hw⟩)))) hd hr
theorem own_retV (A : own_At p l e R s m args below meth c n0 T h cells slots) (hx : p.tables.exec = Jvm.exec) (hret : meth.sig.returnType = none) (hlk : meth.locks = false) (hc : cells ≤ kc) (hs : slots ≤ ks) {pc : Nat} {Ls : Array Slot} (hd : decode c.code pc = .ok (.return_, 1)) (q : Q none h) :
    own_Go p.tables e below (own_End n0 s kc ks Q) (T.setTop (mkF m pc Ls [])) :=
  own_leave A (fun _ => rfl) hlk hc hs q fun _ X _ hr => X.returnOut hx hret hd hr
/-- a body's contract: called with as' at the heap h0 it returns, and Q holds of what it returns and of the heap -/
def own_Met (l : Launch) (Z : State) (n0 : Nat) (y : MethodName) (bytes : ByteArray) (maxL : Nat) (ret : Option FieldType) (rm : Room) (as' : Array Value) (h0 : Heap) (Q : Option Value → Heap → Prop) : Prop :=
  ∀ ws, MetFree l y (head1 (Cond.code y bytes maxL ret :: ws) rm) (fun a U => a = as' ∧ Z.Warmed39 U.vm ∧ U.heap = h0) (fun _ _ _ _ _ => True) (fun _ U o U' => ∃ v L, o = .returned v ∧ (Q v U'.heap ∧ Fr n0 L) ∧ FrameEnd U o U' L rm.cells rm.slots)
theorem own_met {y : MethodName} {bytes : ByteArray} {maxL : Nat} {ret : Option FieldType} {rm : Room} {as' : Array Value} {h0 : Heap} (hp : plainFor y = true)
    (body : ∀ (p : Program) (e : Env) (s : State) (m : MethodId) (below : List Frame) (meth : Method) (c : Code) (T : State), p.tables.exec = Jvm.exec → c.code = bytes → c.maxLocals = maxL → s.vm.findClass y.cls = some m.cls → meth.name = y.name → meth.sig.returnType = ret → meth.locks = false → Z.Warmed39 s.vm →
      own_At p l e rm s m as' below meth c n0 T h0 0 0 → own_Go p.tables e below (own_End n0 s rm.cells rm.slots Q) (T.setTop (entryFrame m as' maxL))) : own_Met l Z n0 y bytes maxL ret rm as' h0 Q := by
  intro ws
  refine MetFree.of_bodySF hp hisR ?_
  intro p e s m args below meth c s₁ Bd hml0 hP hK
  obtain ⟨rfl, hZ, hh⟩ := hP
  exact body p e s m below meth c s₁ Bd.exec Bd.bytes hml0 (findClass_of_methodNamed Bd.named) (name_of_methodNamed Bd.named Bd.method).1 Bd.returns Bd.notSynchronized hZ ⟨[], Stand.of_body Bd, by rw [← hh, Bd.state]; rfl, Fr.nil n0⟩
theorem own_callS (A : own_At p l e R s m args below meth c n0 T h cells slots) (hx : p.tables.exec = Jvm.exec) (hZ : Z.Warmed39 s.vm) {own : String} {index : Nat} {y : MethodName} {bytes : ByteArray} {maxL : Nat} {ret : Option FieldType} (hown : s.vm.findClass own = some m.cls)
    (w1 : (Cond.methodLink own index y).before a0 Z = true) (w2 : (Cond.static y).before a0 Z = true) (w3 : (Cond.initialized y.cls).before a0 Z = true) (w4 : (Cond.code y bytes maxL ret).before a0 Z = true) (hy : y.cls ≠ "java/lang/invoke/MethodHandle" ∧ y.cls ≠ "java/lang/invoke/VarHandle")
    {rm : Room} {argsL rest : List Value} (hM : own_Met l Z n0 y bytes maxL ret rm argsL.toArray h Q) (W : Nat) (hfr : rm.frames + 1 ≤ R.frames) (hlo : W + (maxL + 11) + rm.locals ≤ R.locals) {g : JFrame} (hg : g.method = m) (hsize : g.locals.size = c.maxLocals)
    (hlen : ∀ sig, parseMethodDescriptor y.desc = some sig → argsL.length = sig.parameters.length) (hs : g.stack = argsL.reverse ++ rest) (hW : 2 * g.monitorRoom + (rest.map fun v => v.category).sum ≤ W) (hd : decode c.code g.pc = .ok (.invokestatic index, 3))
    (hc : cells + rm.cells ≤ R.cells) (hl : slots + rm.slots ≤ R.slots)
    (k : ∀ v T' h', own_At p l e R s m args below meth c n0 T' h' (cells + rm.cells) (slots + rm.slots) → Q v h' → own_Go p.tables e below G (T'.setTop { g with pc := g.pc + 3, stack := v.toList ++ rest })) : own_Go p.tables e below G (T.setTop g) := by
  obtain ⟨locs, X, eT, N⟩ := A
  obtain ⟨v, _, ⟨T1, L1, k1, s1⟩, -, X1, ⟨Lc, ⟨hQ, N1⟩, l1, y1, z1⟩, st⟩ := Jvm.LawKit.callS X hx (y := y) hown (mvT hZ w1) (mvT hZ w2) (mvT hZ w3) (mvT hZ w4) hy (backOf (Q := fun v h L => Q v h ∧ Fr n0 L) (W := W) (hM []) hZ w4 w3 hfr hlo) hg hsize (argsL := argsL) (rest := rest) hlen hs hW hd (fun _ _ => ⟨rfl, eT, hc, hl⟩)
  dsimp only [Pt.U, Pt.locs, Pt.cells, Pt.slots] at X1 l1 y1 z1 st hQ
  subst l1 y1 z1
  exact own_go (fun t k => st t k) (k v T1 T1.heap ⟨_, X1, rfl, N.app N1⟩ hQ)
theorem own_callV (A : own_At p l e R s m args below meth c n0 T h cells slots) (hx : p.tables.exec = Jvm.exec) (hZ : Z.Warmed39 s.vm) {own C : String} {index : Nat} {y z : MethodName} {bytes : ByteArray} {maxL : Nat} {ret : Option FieldType} (hown : s.vm.findClass own = some m.cls)
    (w1 : (Cond.methodLink own index y).before a0 Z = true) (w2 : (Cond.declares y).before a0 Z = true) (w3 : (Cond.selects C y z).before a0 Z = true) (w4 : (Cond.instanceMethod z).before a0 Z = true) (w5 : (Cond.initialized z.cls).before a0 Z = true) (w6 : (Cond.code z bytes maxL ret).before a0 Z = true) (nf : NotFace s y)
    (hy : y.cls ≠ "java/lang/invoke/MethodHandle" ∧ y.cls ≠ "java/lang/invoke/VarHandle")
    {rm : Room} {b : Addr} {argsL rest : List Value} (E : Exa Z h b C) (hM : own_Met l Z n0 z bytes maxL ret rm (.ref b :: argsL).toArray h Q) (W : Nat) (hfr : rm.frames + 1 ≤ R.frames) (hlo : W + (maxL + 11) + rm.locals ≤ R.locals) {g : JFrame} (hg : g.method = m) (hsize : g.locals.size = c.maxLocals)
    (hlen : ∀ sig, parseMethodDescriptor y.desc = some sig → argsL.length = sig.parameters.length) (hs : g.stack = argsL.reverse ++ .ref b :: rest) (hW : 2 * g.monitorRoom + (rest.map fun v => v.category).sum ≤ W) (hd : decode c.code g.pc = .ok (.invokevirtual index, 3))
    (hc : cells + rm.cells ≤ R.cells) (hl : slots + rm.slots ≤ R.slots)
    (k : ∀ v T' h', own_At p l e R s m args below meth c n0 T' h' (cells + rm.cells) (slots + rm.slots) → Q v h' → own_Go p.tables e below G (T'.setTop { g with pc := g.pc + 3, stack := v.toList ++ rest })) : own_Go p.tables e below G (T.setTop g) := by
  obtain ⟨locs, X, eT, N⟩ := A
  obtain ⟨cq, kq, qa, qb, qc⟩ := isOf hZ eT E
  obtain ⟨v, _, ⟨T1, L1, k1, s1⟩, -, X1, ⟨Lc, ⟨hQ, N1⟩, l1, y1, z1⟩, st⟩ := X.virtualBack hx (y := y) (z := z) hown (mvT hZ w1) (mvT hZ w2) nf (mvT hZ w3) (mvT hZ w4) hy (backOf (Q := fun v h L => Q v h ∧ Fr n0 L) (W := W) (hM []) hZ w6 w5 hfr hlo) qa qc hg hsize (Steps.refl _) (argsL := argsL) (rest := rest) hlen hs hW hd (fun _ _ => ⟨rfl, eT, hc, hl⟩)
  dsimp only [Pt.U, Pt.locs, Pt.cells, Pt.slots] at X1 l1 y1 z1 st hQ
  subst l1 y1 z1
  exact own_go (fun t k => st.trans k) (k v T1 T1.heap ⟨_, X1, rfl, N.app N1⟩ hQ)
theorem own_callI (A : own_At p l e R s m args below meth c n0 T h cells slots) (hx : p.tables.exec = Jvm.exec) (hZ : Z.Warmed39 s.vm) {own : String} {index : Nat} {y : MethodName} (hy1 : y.name = "<init>") {bytes : ByteArray} {maxL : Nat} (hown : s.vm.findClass own = some m.cls)
    (w1 : (Cond.methodLink own index y).before a0 Z = true) (w4 : (Cond.instanceMethod y).before a0 Z = true) (w5 : (Cond.initialized y.cls).before a0 Z = true) (w6 : (Cond.code y bytes maxL none).before a0 Z = true)
    (hy : y.cls ≠ "java/lang/invoke/MethodHandle" ∧ y.cls ≠ "java/lang/invoke/VarHandle")
    {rm : Room} {b : Addr} {argsL rest : List Value} (hM : own_Met l Z n0 y bytes maxL none rm (.ref b :: argsL).toArray h Q) (W : Nat) (hfr : rm.frames + 1 ≤ R.frames) (hlo : W + (maxL + 11) + rm.locals ≤ R.locals) {g : JFrame} (hg : g.method = m) (hsize : g.locals.size = c.maxLocals)
    (hlen : ∀ sig, parseMethodDescriptor y.desc = some sig → argsL.length = sig.parameters.length) (hs : g.stack = argsL.reverse ++ .ref b :: rest) (hW : 2 * g.monitorRoom + (rest.map fun v => v.category).sum ≤ W) (hd : decode c.code g.pc = .ok (.invokespecial index, 3))
    (hc : cells + rm.cells ≤ R.cells) (hl : slots + rm.slots ≤ R.slots)
    (k : ∀ v T' h', own_At p l e R s m args below meth c n0 T' h' (cells + rm.cells) (slots + rm.slots) → Q v h' → own_Go p.tables e below G (T'.setTop { g with pc := g.pc + 3, stack := v.toList ++ rest })) : own_Go p.tables e below G (T.setTop g) := by
  obtain ⟨locs, X, eT, N⟩ := A
  obtain ⟨v, _, ⟨T1, L1, k1, s1⟩, -, X1, ⟨Lc, ⟨hQ, N1⟩, l1, y1, z1⟩, st⟩ := X.specialBack hx (y := y) hy1 hown (mvT hZ w1) (mvT hZ w4) (mvT hZ w6) hy (backOf (Q := fun v h L => Q v h ∧ Fr n0 L) (W := W) (hM []) hZ w6 w5 hfr hlo) hg hsize (Steps.refl _) (a := b) (argsL := argsL) (rest := rest) hlen hs hW hd (fun _ _ => ⟨rfl, eT, hc, hl⟩)
  dsimp only [Pt.U, Pt.locs, Pt.cells, Pt.slots] at X1 l1 y1 z1 st hQ
  subst l1 y1 z1
  exact own_go (fun t k => st.trans k) (k v T1 T1.heap ⟨_, X1, rfl, N.app N1⟩ hQ)
theorem own_initO (A : own_At p l e R s m args below meth c n0 T h cells slots) (hx : p.tables.exec = Jvm.exec) (hZ : Z.Warmed39 s.vm) {own : String} {idx : Nat} (hown : s.vm.findClass own = some m.cls) (w1 : (Cond.methodLink own idx Lib.objectInit).before a0 Z = true) (w2 : (Cond.instanceMethod Lib.objectInit).before a0 Z = true)
    (w3 : (Cond.code Lib.objectInit ⟨#[0xb1]⟩ 1 none).before a0 Z = true) {g : JFrame} (hg : g.method = m) (hsize : g.locals.size = c.maxLocals) {a : Addr} {rest : List Value} (hs : g.stack = .ref a :: rest) (hd : decode c.code g.pc = .ok (.invokespecial idx, 3))
    (hf : 1 ≤ R.frames) (W : Nat) (hW : 2 * g.monitorRoom + (rest.map fun v => v.category).sum ≤ W) (hl : W + 12 ≤ R.locals)
    (k : ∀ T', own_At p l e R s m args below meth c n0 T' h cells slots → own_Go p.tables e below G (T'.setTop { g with pc := g.pc + 3, stack := rest })) : own_Go p.tables e below G (T.setTop g) := by
  obtain ⟨locs, X, eT, N⟩ := A
  obtain ⟨T1, X1, e1, st⟩ := initO X hx hZ hown w1 w2 w3 eT hg hsize hs hd hf hW hl
  exact own_go st (k T1 ⟨_, X1, e1, N⟩)
theorem own_getF (A : own_At p l e R s m args below meth c n0 T h cells slots) (hx : p.tables.exec = Jvm.exec) (hZ : Z.Warmed39 s.vm) {own R0 O n d host : String} {index : Nat} (hown : s.vm.findClass own = some m.cls) (w : (Cond.fieldLink own index R0 n d).before a0 Z = true ∨ (Cond.fieldLinkNest own index R0 n d host).before a0 Z = true) (via : Via Z R0 O n d)
    {a : Addr} {v : Value} (F : Fld Z h a O n d v) {g : JFrame} (hg : g.method = m) {rest : List Value} (hs : g.stack = .ref a :: rest) (hd : decode c.code g.pc = .ok (.getfield index, 3))
    (k : ∀ T', own_At p l e R s m args below meth c n0 T' h cells slots → own_Go p.tables e below G (T'.setTop { g with pc := g.pc + 3, stack := v :: rest })) : own_Go p.tables e below G (T.setTop g) := by
  obtain ⟨locs, X, eT, N⟩ := A
  obtain ⟨T1, X1, e1, st⟩ := getF X hx hZ hown w via eT F hg hs hd
  exact own_go st (k T1 ⟨_, X1, e1, N⟩)
theorem own_getS (A : own_At p l e R s m args below meth c n0 T h cells slots) (hx : p.tables.exec = Jvm.exec) (hZ : Z.Warmed39 s.vm) {own R0 O n d host : String} {index : Nat} (hown : s.vm.findClass own = some m.cls) (w : (Cond.fieldLink own index R0 n d).before a0 Z = true ∨ (Cond.fieldLinkNest own index R0 n d host).before a0 Z = true) (via : Via Z R0 O n d)
    {v : Value} (F : Sta Z h O n d v) {g : JFrame} (hg : g.method = m) (hd : decode c.code g.pc = .ok (.getstatic index, 3))
    (k : ∀ T', own_At p l e R s m args below meth c n0 T' h cells slots → own_Go p.tables e below G (T'.setTop { g with pc := g.pc + 3, stack := v :: g.stack })) : own_Go p.tables e below G (T.setTop g) := by
  obtain ⟨locs, X, eT, N⟩ := A
  obtain ⟨T1, X1, e1, st⟩ := getS2 X hx hZ hown w via eT F hg hd
  exact own_go st (k T1 ⟨_, X1, e1, N⟩)
theorem own_ldcI (A : own_At p l e R s m args below meth c n0 T h cells slots) (hx : p.tables.exec = Jvm.exec) (hZ : Z.Warmed39 s.vm) {own : String} {index : Nat} {v : Int32} (hown : s.vm.findClass own = some m.cls) (w : (Cond.constant own index v).before a0 Z = true) {g : JFrame} (hg : g.method = m) (hd : decode c.code g.pc = .ok (.ldc index, 2))
    (k : own_Go p.tables e below G (T.setTop { g with pc := g.pc + 2, stack := .int v :: g.stack })) : own_Go p.tables e below G (T.setTop g) := by
  obtain ⟨locs, X, eT, N⟩ := A
  exact own_go (X.ldcInt hx hown (mvT hZ w) hg hd) k
theorem own_ldcwI (A : own_At p l e R s m args below meth c n0 T h cells slots) (hx : p.tables.exec = Jvm.exec) (hZ : Z.Warmed39 s.vm) {own : String} {index : Nat} {v : Int32} (hown : s.vm.findClass own = some m.cls) (w : (Cond.constant own index v).before a0 Z = true) {g : JFrame} (hg : g.method = m) (hd : decode c.code g.pc = .ok (.ldc_w index, 3))
    (k : own_Go p.tables e below G (T.setTop { g with pc := g.pc + 3, stack := .int v :: g.stack })) : own_Go p.tables e below G (T.setTop g) := by
  obtain ⟨locs, X, eT, N⟩ := A
  exact own_go (X.ldcwInt hx hown (mvT hZ w) hg hd) k
theorem own_ldcJ (A : own_At p l e R s m args below meth c n0 T h cells slots) (hx : p.tables.exec = Jvm.exec) (hZ : Z.Warmed39 s.vm) {own : String} {index : Nat} {v : Int64} (hown : s.vm.findClass own = some m.cls) (w : (Cond.constantLong own index v).before a0 Z = true) {g : JFrame} (hg : g.method = m) (hd : decode c.code g.pc = .ok (.ldc2_w index, 3))
    (k : own_Go p.tables e below G (T.setTop { g with pc := g.pc + 3, stack := .long v :: g.stack })) : own_Go p.tables e below G (T.setTop g) := by
  obtain ⟨locs, X, eT, N⟩ := A
  exact own_go (X.ldc2Long hx hown (mvT hZ w) hg hd) k
/-- irem, with Java's sign -/
theorem own_irem {tb : Tables} [Ours tb] {target : State} {g : JFrame} (hh : At T m c below) (hx : tb.exec = Jvm.exec) (hg : g.method = m) {x y : Int32} {rest : List Value} (hd : decode c.code g.pc = .ok (.irem, 1)) (hs : g.stack = .int y :: .int x :: rest) (hy : y ≠ 0)
    (hr : Steps tb e below (T.setTop { g with pc := g.pc + 1, stack := .int (x % y) :: rest }) target) : Steps tb e below (T.setTop g) target :=
  XS.irem hh hx hg hd hs hy (by rw [irem_eq_mod]; exact hr)
theorem own_lrem {tb : Tables} [Ours tb] {target : State} {g : JFrame} (hh : At T m c below) (hx : tb.exec = Jvm.exec) (hg : g.method = m) {x y : Int64} {rest : List Value} (hd : decode c.code g.pc = .ok (.lrem, 1)) (hs : g.stack = .long y :: .long x :: rest) (hy : y ≠ 0)
    (hr : Steps tb e below (T.setTop { g with pc := g.pc + 1, stack := .long (x % y) :: rest }) target) : Steps tb e below (T.setTop g) target :=
  XS.lrem hh hx hg hd hs hy (by rw [lrem_mod]; exact hr)
theorem own_aeq {a b : Addr} (h : a = b) : if_acmp.holds .eq (some a) (some b) = true ∧ if_acmp.holds .ne (some a) (some b) = false := by simp [if_acmp.holds, h]
theorem own_ane {a b : Addr} (h : ¬ a = b) : if_acmp.holds .eq (some a) (some b) = false ∧ if_acmp.holds .ne (some a) (some b) = true := by simp [if_acmp.holds, h]
end OwnKit
section OwnHeap
variable {p : Program} {l : Launch} {e : Env} {R : Room} {s : State} {m : MethodId} {args : Array Value} {below : List Frame} {meth : Method} {c : Code} {T : State} {cells slots : Nat} {Z : State} {a0 : Array Value} {h h' : Heap} {n0 : Nat} {G : State → Outcome → Prop} {a b : Addr} {ty : FieldType} {n j : Int32} {f : Int32 → Int32}
/-- an array of ints (bytes, chars, booleans, shorts): its length is n, its place i holds f i -/
def own_Arr (Z : State) (h : Heap) (a : Addr) (ty : FieldType) (n : Int32) (f : Int32 → Int32) : Prop :=
  ∃ cl : Cell, Arr Z h a cl ty ∧ cl.slots.size = n.toNatClampNeg ∧ ¬ n < 0 ∧ ∀ j : Int32, ¬ j < 0 → j < n → cl.slots[j.toNatClampNeg]? = some (.int (f j))
theorem own_Arr.lt (F : own_Arr Z h a ty n f) : a < h.size := by obtain ⟨_, A, -⟩ := F; exact A.lt
theorem own_Arr.ext (F : own_Arr Z h a ty n f) (E : Ext h h') : own_Arr Z h' a ty n f := by obtain ⟨c, A, r⟩ := F; exact ⟨c, A.ext E, r⟩
theorem own_Arr.other {sl : Nat} {v : Value} (F : own_Arr Z h b ty n f) (W : Wr h h' a sl v) (q : b ≠ a) : own_Arr Z h' b ty n f := by obtain ⟨c, A, r⟩ := F; exact ⟨c, A.other W q, r⟩
theorem own_Arr.keep {ws : List Addr} (F : own_Arr Z h a ty n f) (K : Keep h h' ws) (q : a ∉ ws) : own_Arr Z h' a ty n f := by obtain ⟨c, A, r⟩ := F; exact ⟨c, ⟨K.2.1 a c A.1 q, A.2⟩, r⟩
theorem own_Arr.nn (F : own_Arr Z h a ty n f) : ¬ n < 0 := by obtain ⟨_, -, -, q, -⟩ := F; exact q
theorem own_Arr.congr {f' : Int32 → Int32} (F : own_Arr Z h a ty n f) (q : ∀ i, ¬ i < 0 → i < n → f i = f' i) : own_Arr Z h a ty n f' := by
  obtain ⟨c, A, r1, r2, r3⟩ := F
  exact ⟨c, A, r1, r2, fun i hi hn => by rw [r3 i hi hn, q i hi hn]⟩
theorem own_same {i j : Int32} (hi : ¬ i < 0) (hj : ¬ j < 0) (e : i.toNatClampNeg = j.toNatClampNeg) : i = j := by
  apply Int32.toInt_inj.mp
  rw [nat_of hi, nat_of hj, e]
theorem own_Arr.set {v : Int32} (F : own_Arr Z h a ty n f) (hj : ¬ j < 0) (W : Wr h h' a j.toNatClampNeg (.int v)) : own_Arr Z h' a ty n (fun i => if i = j then v else f i) := by
  obtain ⟨c, A, r1, r2, r3⟩ := F
  refine ⟨c.setSlot j.toNatClampNeg (.int v), A.same W, by rw [sz_set]; exact r1, r2, fun i hi hn => ?_⟩
  have hin := inb_of r1 ⟨hi, hn⟩
  by_cases q : i = j
  · subst q
    show _ = some (Value.int (if i = i then v else f i))
    rw [get_hit hin rfl, if_pos rfl]
  · show _ = some (Value.int (if i = j then v else f i))
    rw [get_miss hj hi q, r3 i hi hn, if_neg q]
theorem own_newO (A : own_At p l e R s m args below meth c n0 T h cells slots) (hx : p.tables.exec = Jvm.exec) (hZ : Z.Warmed39 s.vm) {own C : String} {index k : Nat} (hown : s.vm.findClass own = some m.cls) (w : (Cond.classLink own index C).before a0 Z = true) (wi : (Cond.instantiable C k).before a0 Z = true) (wz : (Cond.initialized C).before a0 Z = true)
    {g : JFrame} (hg : g.method = m) (hd : decode c.code g.pc = .ok (.new index, 3)) (hc : cells + 1 ≤ R.cells) (hl : slots + k ≤ R.slots)
    (kk : ∀ T' h' a, a = h.size → own_At p l e R s m args below meth c n0 T' h' (cells + 1) (slots + k) → Ext h h' → Exa Z h' a C → (∀ {O nm d : String} {ty : FieldType}, Laid Z a0 C O nm d → parseFieldDescriptor d = some ty → Fld Z h' a O nm d (defaultValue ty)) → own_Go p.tables e below G (T'.setTop { g with pc := g.pc + 3, stack := .ref a :: g.stack })) : own_Go p.tables e below G (T.setTop g) := by
  obtain ⟨locs, X, eT, N⟩ := A
  obtain ⟨T1, h1, X1, e1, E1, A1, D1, -, st⟩ := newO X hx hZ hown w wi wz eT hg hd hc hl
  exact own_go st (kk T1 h1 h.size rfl ⟨_, X1, e1, N⟩ E1 A1 D1)
theorem own_newP (A : own_At p l e R s m args below meth c n0 T h cells slots) (hx : p.tables.exec = Jvm.exec) (hZ : Z.Warmed39 s.vm) {aty : ArrayType} (w : (Cond.arrayClass (newarray.typeOf aty)).before a0 Z = true) (hty : defaultValue (newarray.typeOf aty) = .int 0) {g : JFrame} (hg : g.method = m) (hd : decode c.code g.pc = .ok (.newarray aty, 2)) {rest : List Value} (hs : g.stack = .int n :: rest)
    (hn : ¬ n < 0) (cap : Nat) (hcap : n.toNatClampNeg ≤ cap) (hb : cap * 8 ≤ 536870912) (hc : cells + 1 ≤ R.cells) (hl : slots + cap ≤ R.slots)
    (kk : ∀ T' h' a, a = h.size → own_At p l e R s m args below meth c n0 T' h' (cells + 1) (slots + cap) → Ext h h' → own_Arr Z h' a (newarray.typeOf aty) n (fun _ => 0) → (∃ k, Arv Z h' a k (newarray.typeOf aty) n [] (.int 0)) → own_Go p.tables e below G (T'.setTop { g with pc := g.pc + 2, stack := .ref a :: rest })) : own_Go p.tables e below G (T.setTop g) := by
  obtain ⟨locs, X, eT, N⟩ := A
  obtain ⟨T1, h1, k1, X1, e1, E1, A1, st⟩ := newP X hx hZ w eT hg hd hs hn hcap hb hc hl
  refine own_go st (kk T1 h1 h.size rfl ⟨_, X1, e1, N⟩ E1 ⟨_, A1, sz_new _ _ _, hn, fun i hi hin => ?_⟩ ⟨k1, hty ▸ Arv.new A1 hn⟩)
  have q := inb_of (c := newA k1 (newarray.typeOf aty) n) (sz_new _ _ _) ⟨hi, hin⟩
  rw [sz_new] at q
  rw [get_new q, hty]
theorem own_putF (A : own_At p l e R s m args below meth c n0 T h cells slots) (hx : p.tables.exec = Jvm.exec) (hZ : Z.Warmed39 s.vm) {own R0 O nm d host C : String} {index kk : Nat} (hown : s.vm.findClass own = some m.cls) (w : (Cond.fieldLink own index R0 nm d).before a0 Z = true ∨ (Cond.fieldLinkNest own index R0 nm d host).before a0 Z = true) (via : Via Z R0 O nm d)
    {v old : Value} (F : Fld Z h a O nm d old) (E : Exa Z h a C) (L : (Cond.lays C O nm d).before a0 Z = true ∨ ((Cond.laysFinal C O nm d).before a0 Z = true ∧ own = O ∧ meth.name = "<init>")) (wi : (Cond.instantiable C kk).before a0 Z = true)
    (hty : parseFieldDescriptor d = some ty) (hn : narrow ty v = v) (hf : fits ty v = true) (q : n0 ≤ a) {g : JFrame} (hg : g.method = m) {rest : List Value} (hs : g.stack = v :: .ref a :: rest) (hd : decode c.code g.pc = .ok (.putfield index, 3))
    (k : ∀ T' h', own_At p l e R s m args below meth c n0 T' h' cells slots → Wr h h' a (Jvm.RoadKit.slotOf Z O nm d) v → own_Go p.tables e below G (T'.setTop { g with pc := g.pc + 3, stack := rest })) : own_Go p.tables e below G (T.setTop g) := by
  obtain ⟨locs, X, eT, N⟩ := A
  obtain ⟨T1, h1, X1, e1, W1, st⟩ := putF X hx hZ hown w via eT F E L wi hty hn hf hg hs hd
  exact own_go st (k T1 h1 ⟨_, X1, e1, Fr.snoc X1 N q⟩ W1)
theorem own_stI (A : own_At p l e R s m args below meth c n0 T h cells slots) (hx : p.tables.exec = Jvm.exec) (hZ : Z.Warmed39 s.vm) {v : Int32} (F : own_Arr Z h a .int n f) (hj : ¬ j < 0 ∧ j < n) (q : n0 ≤ a) {g : JFrame} (hg : g.method = m) {rest : List Value} (hs : g.stack = .int v :: .int j :: .ref a :: rest) (hd : decode c.code g.pc = .ok (.iastore, 1))
    (k : ∀ T' h', own_At p l e R s m args below meth c n0 T' h' cells slots → Wr h h' a j.toNatClampNeg (.int v) → own_Arr Z h' a .int n (fun i => if i = j then v else f i) → own_Go p.tables e below G (T'.setTop { g with pc := g.pc + 1, stack := rest })) : own_Go p.tables e below G (T.setTop g) := by
  obtain ⟨locs, X, eT, N⟩ := A
  obtain ⟨c1, A1, S1, M1, H1⟩ := id F
  obtain ⟨T1, h1, X1, e1, W1, st⟩ := stI X hx hZ eT A1 (inb_of S1 hj) hg hs hd
  exact own_go st (k T1 h1 ⟨_, X1, e1, Fr.snoc X1 N q⟩ W1 (F.set hj.1 W1))
theorem own_stB (A : own_At p l e R s m args below meth c n0 T h cells slots) (hx : p.tables.exec = Jvm.exec) (hZ : Z.Warmed39 s.vm) {v : Int32} (F : own_Arr Z h a .byte n f) (hj : ¬ j < 0 ∧ j < n) (q : n0 ≤ a) {g : JFrame} (hg : g.method = m) {rest : List Value} (hs : g.stack = .int v :: .int j :: .ref a :: rest) (hd : decode c.code g.pc = .ok (.bastore, 1))
    (k : ∀ T' h', own_At p l e R s m args below meth c n0 T' h' cells slots → Wr h h' a j.toNatClampNeg (.int (nar .byte v)) → own_Arr Z h' a .byte n (fun i => if i = j then nar .byte v else f i) → own_Go p.tables e below G (T'.setTop { g with pc := g.pc + 1, stack := rest })) : own_Go p.tables e below G (T.setTop g) := by
  obtain ⟨locs, X, eT, N⟩ := A
  obtain ⟨c1, A1, S1, M1, H1⟩ := id F
  obtain ⟨T1, h1, X1, e1, W1, st⟩ := stB X hx hZ eT A1 (inb_of S1 hj) hg hs hd
  exact own_go st (k T1 h1 ⟨_, X1, e1, Fr.snoc X1 N q⟩ W1 (F.set hj.1 W1))
theorem own_stC (A : own_At p l e R s m args below meth c n0 T h cells slots) (hx : p.tables.exec = Jvm.exec) (hZ : Z.Warmed39 s.vm) {v : Int32} (F : own_Arr Z h a .char n f) (hj : ¬ j < 0 ∧ j < n) (q : n0 ≤ a) {g : JFrame} (hg : g.method = m) {rest : List Value} (hs : g.stack = .int v :: .int j :: .ref a :: rest) (hd : decode c.code g.pc = .ok (.castore, 1))
    (k : ∀ T' h', own_At p l e R s m args below meth c n0 T' h' cells slots → Wr h h' a j.toNatClampNeg (.int (nar .char v)) → own_Arr Z h' a .char n (fun i => if i = j then nar .char v else f i) → own_Go p.tables e below G (T'.setTop { g with pc := g.pc + 1, stack := rest })) : own_Go p.tables e below G (T.setTop g) := by
  obtain ⟨locs, X, eT, N⟩ := A
  obtain ⟨c1, A1, S1, M1, H1⟩ := id F
  obtain ⟨T1, h1, X1, e1, W1, st⟩ := stC X hx hZ eT A1 (inb_of S1 hj) hg hs hd
  exact own_go st (k T1 h1 ⟨_, X1, e1, Fr.snoc X1 N q⟩ W1 (F.set hj.1 W1))
theorem own_ldI (A : own_At p l e R s m args below meth c n0 T h cells slots) (hx : p.tables.exec = Jvm.exec) (hZ : Z.Warmed39 s.vm) (F : own_Arr Z h a .int n f) (hj : ¬ j < 0 ∧ j < n) {g : JFrame} (hg : g.method = m) {rest : List Value} (hs : g.stack = .int j :: .ref a :: rest) (hd : decode c.code g.pc = .ok (.iaload, 1))
    (k : own_Go p.tables e below G (T.setTop { g with pc := g.pc + 1, stack := .int (f j) :: rest })) : own_Go p.tables e below G (T.setTop g) := by
  obtain ⟨locs, X, eT, N⟩ := A
  obtain ⟨c1, A1, S1, M1, H1⟩ := F
  exact own_go (fun t k => X.iaload hx (by rw [eT]; exact A1.1) (State.isArrayOf_alike hZ.alike A1.2.1) A1.2.2 (inb_of S1 hj) (H1 j hj.1 hj.2) hg hs hd t k) k
theorem own_ldB (A : own_At p l e R s m args below meth c n0 T h cells slots) (hx : p.tables.exec = Jvm.exec) (hZ : Z.Warmed39 s.vm) (F : own_Arr Z h a .byte n f) (hj : ¬ j < 0 ∧ j < n) {g : JFrame} (hg : g.method = m) {rest : List Value} (hs : g.stack = .int j :: .ref a :: rest) (hd : decode c.code g.pc = .ok (.baload, 1))
    (k : own_Go p.tables e below G (T.setTop { g with pc := g.pc + 1, stack := .int (f j) :: rest })) : own_Go p.tables e below G (T.setTop g) := by
  obtain ⟨locs, X, eT, N⟩ := A
  obtain ⟨c1, A1, S1, M1, H1⟩ := F
  exact own_go (fun t k => X.baloadBytes hx (by rw [eT]; exact A1.1) (State.isArrayOf_alike hZ.alike A1.2.1) A1.2.2 (inb_of S1 hj) (H1 j hj.1 hj.2) hg hs hd t k) k
theorem own_ldC (A : own_At p l e R s m args below meth c n0 T h cells slots) (hx : p.tables.exec = Jvm.exec) (hZ : Z.Warmed39 s.vm) (F : own_Arr Z h a .char n f) (hj : ¬ j < 0 ∧ j < n) {g : JFrame} (hg : g.method = m) {rest : List Value} (hs : g.stack = .int j :: .ref a :: rest) (hd : decode c.code g.pc = .ok (.caload, 1))
    (k : own_Go p.tables e below G (T.setTop { g with pc := g.pc + 1, stack := .int (f j) :: rest })) : own_Go p.tables e below G (T.setTop g) := by
  obtain ⟨locs, X, eT, N⟩ := A
  obtain ⟨c1, A1, S1, M1, H1⟩ := F
  exact own_go (fun t k => X.caload hx (by rw [eT]; exact A1.1) (State.isArrayOf_alike hZ.alike A1.2.1) A1.2.2 (inb_of S1 hj) (H1 j hj.1 hj.2) hg hs hd t k) k
theorem own_len (A : own_At p l e R s m args below meth c n0 T h cells slots) (hx : p.tables.exec = Jvm.exec) (hZ : Z.Warmed39 s.vm) (F : own_Arr Z h a ty n f) {g : JFrame} (hg : g.method = m) {rest : List Value} (hs : g.stack = .ref a :: rest) (hd : decode c.code g.pc = .ok (.arraylength, 1))
    (k : own_Go p.tables e below G (T.setTop { g with pc := g.pc + 1, stack := .int n :: rest })) : own_Go p.tables e below G (T.setTop g) := by
  obtain ⟨locs, X, eT, N⟩ := A
  obtain ⟨c1, A1, S1, M1, H1⟩ := F
  rw [← len_of S1 M1] at k
  exact own_go (fun t k => X.arraylength hx (by rw [eT]; exact A1.1) (State.isArrayOf_alike hZ.alike A1.2.1) hg hs hd t k) k
end OwnHeap
/-! small naturals as ints -/
theorem own_nI {i : Nat} (hi : i < 2 ^ 31) : (Int32.ofNat i).toInt = (i : Int) := Int32.toInt_ofNat_small hi
theorem own_nlt {i j : Nat} (hi : i < 2 ^ 31) (hj : j < 2 ^ 31) : (Int32.ofNat i < Int32.ofNat j) ↔ i < j := by rw [Int32.lt_iff_toInt_lt, own_nI hi, own_nI hj]; omega
theorem own_nn {i : Nat} (hi : i < 2 ^ 31) : ¬ Int32.ofNat i < 0 := by rw [Int32.lt_iff_toInt_lt, own_nI hi]; have : (0 : Int32).toInt = 0 := rfl; omega
theorem own_neq {i j : Nat} (hi : i < 2 ^ 31) (hj : j < 2 ^ 31) : (Int32.ofNat i = Int32.ofNat j) ↔ i = j := by rw [← Int32.toInt_inj, own_nI hi, own_nI hj]; omega
theorem own_nadd (i j : Nat) : Int32.ofNat i + Int32.ofNat j = Int32.ofNat (i + j) := (Int32.ofNat_add i j).symm
theorem own_nmul (i j : Nat) : Int32.ofNat i * Int32.ofNat j = Int32.ofNat (i * j) := (Int32.ofNat_mul i j).symm
theorem own_succ (i : Nat) : Int32.ofNat i + (1 : Int32) = Int32.ofNat (i + 1) := own_nadd i 1
theorem own_dbl (i : Nat) : (2 : Int32) * Int32.ofNat i = Int32.ofNat (2 * i) := own_nmul 2 i
theorem own_prd (i : Nat) : Int32.ofNat (i + 1) + (-1 : Int32) = Int32.ofNat i := by rw [← own_succ, Int32.add_assoc]; show Int32.ofNat i + 0 = _; rw [Int32.add_zero]
theorem own_sub1 (i : Nat) : Int32.ofNat (i + 1) - (1 : Int32) = Int32.ofNat i := by rw [← own_succ, Int32.add_sub_cancel]
theorem own_nge {i j : Nat} (hi : i < 2 ^ 31) (hj : j < 2 ^ 31) (h : ¬ Int32.ofNat i < Int32.ofNat j) : j ≤ i := Nat.le_of_not_lt fun z => h ((own_nlt hi hj).mpr z)
section OwnBack
variable {p : Program} {l : Launch} {e : Env} {R : Room} {s : State} {m : MethodId} {args : Array Value} {below : List Frame} {meth : Method} {c : Code} {T : State} {cells slots : Nat} {Z : State} {a0 : Array Value} {h : Heap} {n0 : Nat} {G : State → Outcome → Prop} {Q : Option Value → Heap → Prop}
/-- a call that is paid by a law of the library or of a paste -/
def own_Bk (l : Launch) (R : Room) (p : Program) (e : Env) (below : List Frame) (s : State) (args : Array Value) (n0 : Nat) (y : MethodName) (W : Nat) (as' : Array Value) (h : Heap) (kc ks : Nat) (Q : Option Value → Heap → Prop) : Prop :=
  Back l R p e below s args y 3 W (fun A a => a = as' ∧ A.U.heap = h ∧ A.cells + kc ≤ R.cells ∧ A.slots + ks ≤ R.slots) (fun A _ v B => ∃ L, (Q v B.U.heap ∧ Fr n0 L) ∧ B.locs = A.locs ++ L ∧ B.cells = A.cells + kc ∧ B.slots = A.slots + ks)
theorem own_callSB (A : own_At p l e R s m args below meth c n0 T h cells slots) (hx : p.tables.exec = Jvm.exec) (hZ : Z.Warmed39 s.vm) {own : String} {index : Nat} {y : MethodName} {bytes : ByteArray} {maxL : Nat} {ret : Option FieldType} (hown : s.vm.findClass own = some m.cls)
    (w1 : (Cond.methodLink own index y).before a0 Z = true) (w2 : (Cond.static y).before a0 Z = true) (w3 : (Cond.initialized y.cls).before a0 Z = true) (w4 : (Cond.code y bytes maxL ret).before a0 Z = true) (hy : y.cls ≠ "java/lang/invoke/MethodHandle" ∧ y.cls ≠ "java/lang/invoke/VarHandle")
    {W kc ks : Nat} {argsL rest : List Value} (hB : own_Bk l R p e below s args n0 y W argsL.toArray h kc ks Q) {g : JFrame} (hg : g.method = m) (hsize : g.locals.size = c.maxLocals)
    (hlen : ∀ sig, parseMethodDescriptor y.desc = some sig → argsL.length = sig.parameters.length) (hs : g.stack = argsL.reverse ++ rest) (hW : 2 * g.monitorRoom + (rest.map fun v => v.category).sum ≤ W) (hd : decode c.code g.pc = .ok (.invokestatic index, 3))
    (hc : cells + kc ≤ R.cells) (hl : slots + ks ≤ R.slots)
    (k : ∀ v T' h', own_At p l e R s m args below meth c n0 T' h' (cells + kc) (slots + ks) → Q v h' → own_Go p.tables e below G (T'.setTop { g with pc := g.pc + 3, stack := v.toList ++ rest })) : own_Go p.tables e below G (T.setTop g) := by
  obtain ⟨locs, X, eT, N⟩ := A
  obtain ⟨v, _, ⟨T1, L1, k1, s1⟩, -, X1, ⟨Lc, ⟨hQ, N1⟩, l1, y1, z1⟩, st⟩ := Jvm.LawKit.callS X hx (y := y) hown (mvT hZ w1) (mvT hZ w2) (mvT hZ w3) (mvT hZ w4) hy hB hg hsize (argsL := argsL) (rest := rest) hlen hs hW hd (fun _ _ => ⟨rfl, eT, hc, hl⟩)
  dsimp only [Pt.U, Pt.locs, Pt.cells, Pt.slots] at X1 l1 y1 z1 st hQ
  subst l1 y1 z1
  exact own_go (fun t k => st t k) (k v T1 T1.heap ⟨_, X1, rfl, N.app N1⟩ hQ)
theorem own_callVB (A : own_At p l e R s m args below meth c n0 T h cells slots) (hx : p.tables.exec = Jvm.exec) (hZ : Z.Warmed39 s.vm) {own C : String} {index : Nat} {y z : MethodName} (hown : s.vm.findClass own = some m.cls)
    (w1 : (Cond.methodLink own index y).before a0 Z = true) (w2 : (Cond.declares y).before a0 Z = true) (w3 : (Cond.selects C y z).before a0 Z = true) (w4 : (Cond.instanceMethod z).before a0 Z = true) (nf : NotFace s y)
    (hy : y.cls ≠ "java/lang/invoke/MethodHandle" ∧ y.cls ≠ "java/lang/invoke/VarHandle")
    {W kc ks : Nat} {b : Addr} {argsL rest : List Value} (E : Exa Z h b C) (hB : own_Bk l R p e below s args n0 z W (.ref b :: argsL).toArray h kc ks Q) {g : JFrame} (hg : g.method = m) (hsize : g.locals.size = c.maxLocals)
    (hlen : ∀ sig, parseMethodDescriptor y.desc = some sig → argsL.length = sig.parameters.length) (hs : g.stack = argsL.reverse ++ .ref b :: rest) (hW : 2 * g.monitorRoom + (rest.map fun v => v.category).sum ≤ W) (hd : decode c.code g.pc = .ok (.invokevirtual index, 3))
    (hc : cells + kc ≤ R.cells) (hl : slots + ks ≤ R.slots)
    (k : ∀ v T' h', own_At p l e R s m args below meth c n0 T' h' (cells + kc) (slots + ks) → Q v h' → own_Go p.tables e below G (T'.setTop { g with pc := g.pc + 3, stack := v.toList ++ rest })) : own_Go p.tables e below G (T.setTop g) := by
  obtain ⟨locs, X, eT, N⟩ := A
  obtain ⟨cq, kq, qa, qb, qc⟩ := isOf hZ eT E
  obtain ⟨v, _, ⟨T1, L1, k1, s1⟩, -, X1, ⟨Lc, ⟨hQ, N1⟩, l1, y1, z1⟩, st⟩ := X.virtualBack hx (y := y) (z := z) hown (mvT hZ w1) (mvT hZ w2) nf (mvT hZ w3) (mvT hZ w4) hy hB qa qc hg hsize (Steps.refl _) (argsL := argsL) (rest := rest) hlen hs hW hd (fun _ _ => ⟨rfl, eT, hc, hl⟩)
  dsimp only [Pt.U, Pt.locs, Pt.cells, Pt.slots] at X1 l1 y1 z1 st hQ
  subst l1 y1 z1
  exact own_go (fun t k => st.trans k) (k v T1 T1.heap ⟨_, X1, rfl, N.app N1⟩ hQ)
theorem own_callIB (A : own_At p l e R s m args below meth c n0 T h cells slots) (hx : p.tables.exec = Jvm.exec) (hZ : Z.Warmed39 s.vm) {own : String} {index : Nat} {y : MethodName} (hy1 : y.name = "<init>") {bytes : ByteArray} {maxL : Nat} (hown : s.vm.findClass own = some m.cls)
    (w1 : (Cond.methodLink own index y).before a0 Z = true) (w4 : (Cond.instanceMethod y).before a0 Z = true) (w6 : (Cond.code y bytes maxL none).before a0 Z = true)
    (hy : y.cls ≠ "java/lang/invoke/MethodHandle" ∧ y.cls ≠ "java/lang/invoke/VarHandle")
    {W kc ks : Nat} {b : Addr} {argsL rest : List Value} (hB : own_Bk l R p e below s args n0 y W (.ref b :: argsL).toArray h kc ks Q) {g : JFrame} (hg : g.method = m) (hsize : g.locals.size = c.maxLocals)
    (hlen : ∀ sig, parseMethodDescriptor y.desc = some sig → argsL.length = sig.parameters.length) (hs : g.stack = argsL.reverse ++ .ref b :: rest) (hW : 2 * g.monitorRoom + (rest.map fun v => v.category).sum ≤ W) (hd : decode c.code g.pc = .ok (.invokespecial index, 3))
    (hc : cells + kc ≤ R.cells) (hl : slots + ks ≤ R.slots)
    (k : ∀ v T' h', own_At p l e R s m args below meth c n0 T' h' (cells + kc) (slots + ks) → Q v h' → own_Go p.tables e below G (T'.setTop { g with pc := g.pc + 3, stack := v.toList ++ rest })) : own_Go p.tables e below G (T.setTop g) := by
  obtain ⟨locs, X, eT, N⟩ := A
  obtain ⟨v, _, ⟨T1, L1, k1, s1⟩, -, X1, ⟨Lc, ⟨hQ, N1⟩, l1, y1, z1⟩, st⟩ := X.specialBack hx (y := y) hy1 hown (mvT hZ w1) (mvT hZ w4) (mvT hZ w6) hy hB hg hsize (Steps.refl _) (a := b) (argsL := argsL) (rest := rest) hlen hs hW hd (fun _ _ => ⟨rfl, eT, hc, hl⟩)
  dsimp only [Pt.U, Pt.locs, Pt.cells, Pt.slots] at X1 l1 y1 z1 st hQ
  subst l1 y1 z1
  exact own_go (fun t k => st.trans k) (k v T1 T1.heap ⟨_, X1, rfl, N.app N1⟩ hQ)
end OwnBack
section OwnW
variable {p : Program} {l : Launch} {e : Env} {R : Room} {s : State} {m : MethodId} {args : Array Value} {below : List Frame} {meth : Method} {c : Code} {T : State} {cells slots : Nat} {Z : State} {a0 : Array Value} {h : Heap} {n0 : Nat} {G : State → Outcome → Prop} {Q : Option Value → Heap → Prop} {vm0 : Vm} {k0 kc ks : Nat} {Ts : List String}
/-- the end of a body that may have interned -/
def own_EndW (n0 : Nat) (s : State) (kc ks : Nat) (Q : Option Value → Heap → Prop) : State → Outcome → Prop := fun s₂ o => ∃ v L, o = .returned v ∧ (Q v s₂.heap ∧ Fr n0 L) ∧ ReturnedEndW s o s₂ L kc ks
theorem own_leaveW (A : own_At p l e R (s.setVm vm0) m args below meth c n0 T h cells slots) (hS : s.Since vm0 k0) (hk : k0 ≤ h.size) {v : Option Value} (hv : meth.sig.returnType = none → v = none) (hlk : meth.locks = false) (hc : cells ≤ kc) (hs : slots ≤ ks) (q : Q v h) {U : State}
    (st : ∀ locs, Stand p l e R (s.setVm vm0) m args below meth c T locs cells slots → ∀ fs, (∀ (f : JFrame) (acts : List Action), f.method = m → f.locked = none → f.entered = [] → (doReturn e (T.setTop f) acts v).1 = T.setFrames fs) → Steps p.tables e below U (T.setFrames fs)) : own_Go p.tables e below (own_EndW n0 s kc ks Q) U := by
  obtain ⟨locs, X, rfl, N⟩ := A
  obtain ⟨fs, hr, hrun, hended, e1, e2, e3, e4⟩ := X.leaveW hS hk hv hlk
  exact ⟨_, _, st locs X fs hr, hrun, hended, _, _, rfl, ⟨q, N⟩, e1, e2, e3, e4.mono hc hs⟩
theorem own_retNW (A : own_At p l e R (s.setVm vm0) m args below meth c n0 T h cells slots) (hx : p.tables.exec = Jvm.exec) {t : FieldType} (hret : meth.sig.returnType = some t) (ht : t = .boolean ∨ t = .byte ∨ t = .char ∨ t = .short) (hlk : meth.locks = false) (hc : cells ≤ kc) (hs : slots ≤ ks) (hS : s.Since vm0 k0) (hk : k0 ≤ h.size) {pc : Nat} {Ls : Array Slot} {z : Int32} {rest : List Value} (hd : decode c.code pc = .ok (.ireturn, 1)) (q : Q (some (.int (nar t z))) h) :
    own_Go p.tables e below (own_EndW n0 s kc ks Q) (T.setTop (mkF m pc Ls (.int z :: rest))) :=
  own_leaveW A hS hk (fun q => by rw [hret] at q; cases q) hlk hc hs q fun _ X _ hr => retN X hx hret ht hd hr
/-- a contract of a body that may intern: Ts are the texts that the run has loaded before -/
def own_MetW (l : Launch) (Z : State) (n0 : Nat) (y : MethodName) (bytes : ByteArray) (maxL : Nat) (ret : Option FieldType) (rm : Room) (as' : Array Value) (h0 : Heap) (Ts : List String) (Q : Option Value → Heap → Prop) : Prop :=
  ∀ ws, MetFree l y (head1 (Cond.code y bytes maxL ret :: ws) rm) (fun a U => a = as' ∧ Z.Warmed39 U.vm ∧ U.heap = h0 ∧ IB Z U.vm Ts) (fun _ _ _ _ _ => True) (fun _ U o U' => ∃ v L, o = .returned v ∧ (Q v U'.heap ∧ Fr n0 L) ∧ ReturnedEndW U o U' L rm.cells rm.slots)
theorem own_metW {y : MethodName} {bytes : ByteArray} {maxL : Nat} {ret : Option FieldType} {rm : Room} {as' : Array Value} {h0 : Heap} (hp : plainFor y = true)
    (body : ∀ (p : Program) (e : Env) (s : State) (m : MethodId) (below : List Frame) (meth : Method) (c : Code) (T : State), p.tables.exec = Jvm.exec → c.code = bytes → c.maxLocals = maxL → (s.setVm s.vm).vm.findClass y.cls = some m.cls → meth.name = y.name → meth.sig.returnType = ret → meth.locks = false → Z.Warmed39 (s.setVm s.vm).vm →
      own_At p l e rm (s.setVm s.vm) m as' below meth c n0 T h0 0 0 → s.heap = h0 → s.Since s.vm 0 → IB Z s.vm Ts → own_Go p.tables e below (own_EndW n0 s rm.cells rm.slots Q) (T.setTop (entryFrame m as' maxL))) : own_MetW l Z n0 y bytes maxL ret rm as' h0 Ts Q := by
  intro ws
  refine MetFree.of_bodySF hp hisR ?_
  intro p e s m args below meth c s₁ Bd hml0 hP hK
  obtain ⟨rfl, hZ, hh, hI⟩ := hP
  exact body p e s m below meth c s₁ Bd.exec Bd.bytes hml0 (findClass_of_methodNamed Bd.named) (name_of_methodNamed Bd.named Bd.method).1 Bd.returns Bd.notSynchronized hZ ⟨[], Stand.of_body Bd, by rw [← hh, Bd.state]; rfl, Fr.nil n0⟩ hh ((State.WarmedH.refl s).since 0) hI
theorem own_Arr.ofL {b : Addr} {ty : FieldType} {k : ClassId} {z : Int32} {xs : List Int32} {d : Value} (V : Arv Z h b k ty z (xs.map Value.int) d) (hl : z.toNatClampNeg = xs.length) : own_Arr Z h b ty z (fun j => xs.getD j.toNatClampNeg 0) := by
  obtain ⟨cl, A, -, S, M, H, -⟩ := V
  refine ⟨cl, A, S, M, fun j h0 h1 => ?_⟩
  have hj : j.toNatClampNeg < cl.slots.size := by
    have q := inb_of S ⟨h0, h1⟩
    exact Nat.lt_of_not_le fun z => q (Or.inr z)
  have q := H j.toNatClampNeg hj
  show _ = some (Value.int (xs.getD j.toNatClampNeg 0))
  rw [q, List.getD_eq_getElem?_getD, List.getElem?_map, List.getD_eq_getElem?_getD]
  rw [S, hl] at hj
  rw [List.getElem?_eq_getElem hj]
  rfl
/-- ldc of a String constant, cold or warm: what lies behind it -/
theorem own_ldcV (A : own_At p l e R (s.setVm vm0) m args below meth c n0 T h cells slots) (hx : p.tables.exec = Jvm.exec) (hZ : Z.Warmed39 (s.setVm vm0).vm) {own text : String} {index : Nat} (hown : (s.setVm vm0).vm.findClass own = some m.cls) (w : (Cond.stringLink own index text).before a0 Z = true) (wS : ∀ a ∈ Bundle.stringAtoms, a.before a0 Z = true)
    (hS : s.Since vm0 k0) (hk : k0 ≤ h.size) (hn0 : s.heap.size ≤ n0) (hkeep : ∀ (b : Addr) (cl : Cell), Z.heap[b]? = some cl → s.heap[b]? = some cl) (I : IB Z vm0 Ts) (hnot : text ∉ Ts) (hh : Jvm.Lit.constHeld Z own index) (hcw : Jvm.Lit.compactW.before a0 Z = true)
    {xs : List Int32} {z : Int32} (ht : (∀ c ∈ text.toList, c.toNat < 256) ∧ text.toList.map (fun c => Value.int (Jvm.Lit.byteI c.toNat.toUInt16)) = xs.map Value.int) (hz : ¬ z < 0) (hl : z.toNatClampNeg = xs.length)
    {g : JFrame} (hg : g.method = m) (hd : decode c.code g.pc = .ok (.ldc index, 2)) (n : Nat) (hn : 4 * text.toList.length ≤ n) (hbig : n ≤ 536870912) (hc : cells + 2 ≤ R.cells) (hl' : slots + (n + 4) ≤ R.slots)
    (k : ∀ T' h' a b vm1 k1, own_At p l e R (s.setVm vm1) m args below meth c n0 T' h' (cells + 2) (slots + (n + 4)) → Ext h h' → s.Since vm1 k1 → k1 ≤ h'.size → Z.Warmed39 (s.setVm vm1).vm → (s.setVm vm1).vm.findClass own = some m.cls → IB Z vm1 (text :: Ts) →
      Exa Z h' a "java/lang/String" → Fld Z h' a "java/lang/String" "coder" "B" (.int 0) → Fld Z h' a "java/lang/String" "value" "[B" (.ref b) → own_Arr Z h' b .byte z (fun j => xs.getD j.toNatClampNeg 0) → own_Go p.tables e below G (T'.setTop { g with pc := g.pc + 2, stack := .ref a :: g.stack })) : own_Go p.tables e below G (T.setTop g) := by
  obtain ⟨locs, X, eT, N⟩ := A
  obtain ⟨a, T', h', k1, b, kk, r1, r2, r3, r4, r5, r6, r7, r8, r9, r10, r11, r12, r13, r14, r15⟩ := ldcSV X hx hZ hown w wS eT hS hk (fun y hy => Nat.le_trans hn0 (N y hy)) hkeep I hnot hh hcw ht hz (by rw [List.length_map]; exact hl) hg hd hn hbig hc hl'
  exact own_go r15 (k T' h' a b T'.vm k1 ⟨_, r1, r2, N⟩ r3 r4 r5 r6 r7 r14 r8 r9 r10 (own_Arr.ofL r11 hl))
end OwnW
section OwnC
variable {p : Program} {l : Launch} {e : Env} {R : Room} {s : State} {m : MethodId} {args : Array Value} {below : List Frame} {meth : Method} {c : Code} {T : State} {cells slots : Nat} {Z : State} {a0 : Array Value} {h h0 : Heap} {n0 : Nat} {G : State → Outcome → Prop} {Q : Option Value → Heap → Prop} {vm0 : Vm} {k0 kc ks : Nat} {EL : List (String × Nat)}
/-- the end of a body that may have interned; what the table books of EL's entries is as it should be -/
def own_EndC (Z : State) (EL : List (String × Nat)) (n0 : Nat) (s : State) (kc ks : Nat) (Q : Option Value → Heap → Prop) : State → Outcome → Prop := fun s₂ o => ∃ v L, o = .returned v ∧ (Q v s₂.heap ∧ Fr n0 L) ∧ CHr Z EL s.vm s.heap s₂.vm s₂.heap ∧ ReturnedEndW s o s₂ L kc ks
theorem own_leaveC (A : own_At p l e R (s.setVm vm0) m args below meth c n0 T h cells slots) (hZ : Z.Warmed39 (s.setVm vm0).vm) (hEL : EW Z a0 EL) (hs0 : s.heap = h0) (C : CHr Z EL s.vm h0 vm0 h) (hS : s.Since vm0 k0) (hk : k0 ≤ h.size) {v : Option Value} (hv : meth.sig.returnType = none → v = none) (hlk : meth.locks = false) (hc : cells ≤ kc) (hs : slots ≤ ks) (q : Q v h) {U : State}
    (st : ∀ locs, Stand p l e R (s.setVm vm0) m args below meth c T locs cells slots → ∀ fs, (∀ (f : JFrame) (acts : List Action), f.method = m → f.locked = none → f.entered = [] → (doReturn e (T.setTop f) acts v).1 = T.setFrames fs) → Steps p.tables e below U (T.setFrames fs)) : own_Go p.tables e below (own_EndC Z EL n0 s kc ks Q) U := by
  obtain ⟨locs, X, rfl, N⟩ := A
  obtain ⟨fs, hr, hrun, hended, e1, e2, e3, e4⟩ := X.leaveW hS hk hv hlk
  refine ⟨_, _, st locs X fs hr, hrun, hended, _, _, rfl, ⟨q, N⟩, ?_, e1, e2, e3, e4.mono hc hs⟩
  rw [hs0]
  show CHr Z EL s.vm h0 T.vm T.heap
  exact C.trans (CHv.at X hZ hEL C.1)
theorem own_retNC (A : own_At p l e R (s.setVm vm0) m args below meth c n0 T h cells slots) (hx : p.tables.exec = Jvm.exec) {t : FieldType} (hret : meth.sig.returnType = some t) (ht : t = .boolean ∨ t = .byte ∨ t = .char ∨ t = .short) (hlk : meth.locks = false) (hc : cells ≤ kc) (hs : slots ≤ ks) (hZ : Z.Warmed39 (s.setVm vm0).vm) (hEL : EW Z a0 EL) (hs0 : s.heap = h0) (C : CHr Z EL s.vm h0 vm0 h) (hS : s.Since vm0 k0) (hk : k0 ≤ h.size) {pc : Nat} {Ls : Array Slot} {z : Int32} {rest : List Value} (hd : decode c.code pc = .ok (.ireturn, 1)) (q : Q (some (.int (nar t z))) h) :
    own_Go p.tables e below (own_EndC Z EL n0 s kc ks Q) (T.setTop (mkF m pc Ls (.int z :: rest))) :=
  own_leaveC A hZ hEL hs0 C hS hk (fun q => by rw [hret] at q; cases q) hlk hc hs q fun _ X _ hr => retN X hx hret ht hd hr
theorem own_retAC (A : own_At p l e R (s.setVm vm0) m args below meth c n0 T h cells slots) (hx : p.tables.exec = Jvm.exec) {t : FieldType} (hret : meth.sig.returnType = some t) (ht : t.isReference = true) (hlk : meth.locks = false) (hc : cells ≤ kc) (hs : slots ≤ ks) (hZ : Z.Warmed39 (s.setVm vm0).vm) (hEL : EW Z a0 EL) (hs0 : s.heap = h0) (C : CHr Z EL s.vm h0 vm0 h) (hS : s.Since vm0 k0) (hk : k0 ≤ h.size) {pc : Nat} {Ls : Array Slot} {w : Value} (hw : w.isRef = true) {rest : List Value} (hd : decode c.code pc = .ok (.areturn, 1)) (q : Q (some w) h) :
    own_Go p.tables e below (own_EndC Z EL n0 s kc ks Q) (T.setTop (mkF m pc Ls (w :: rest))) :=
  own_leaveC A hZ hEL hs0 C hS hk (fun q => by rw [hret] at q; cases q) hlk hc hs q fun _ X _ hr => retOut X hx hret (by cases t <;> first | rfl | cases ht) (Or.inr (Or.inr (Or.inr (Or.inr ⟨rfl, ht, hw⟩)))) hd hr
def own_MetC (l : Launch) (Z : State) (EL : List (String × Nat)) (n0 : Nat) (y : MethodName) (bytes : ByteArray) (maxL : Nat) (ret : Option FieldType) (rm : Room) (as' : Array Value) (h0 : Heap) (Q : Option Value → Heap → Prop) : Prop :=
  ∀ ws, MetFree l y (head1 (Cond.code y bytes maxL ret :: ws) rm) (fun a U => a = as' ∧ Z.Warmed39 U.vm ∧ U.heap = h0 ∧ CHv Z EL U.vm h0) (fun _ _ _ _ _ => True) (fun _ U o U' => ∃ v L, o = .returned v ∧ (Q v U'.heap ∧ Fr n0 L) ∧ CHr Z EL U.vm U.heap U'.vm U'.heap ∧ ReturnedEndW U o U' L rm.cells rm.slots)
theorem own_metC {y : MethodName} {bytes : ByteArray} {maxL : Nat} {ret : Option FieldType} {rm : Room} {as' : Array Value} {h0 : Heap} (hp : plainFor y = true)
    (body : ∀ (p : Program) (e : Env) (s : State) (m : MethodId) (below : List Frame) (meth : Method) (c : Code) (T : State), p.tables.exec = Jvm.exec → c.code = bytes → c.maxLocals = maxL → (s.setVm s.vm).vm.findClass y.cls = some m.cls → meth.name = y.name → meth.sig.returnType = ret → meth.locks = false → Z.Warmed39 (s.setVm s.vm).vm →
      own_At p l e rm (s.setVm s.vm) m as' below meth c n0 T h0 0 0 → s.heap = h0 → s.Since s.vm 0 → CHr Z EL s.vm h0 s.vm h0 → own_Go p.tables e below (own_EndC Z EL n0 s rm.cells rm.slots Q) (T.setTop (entryFrame m as' maxL))) : own_MetC l Z EL n0 y bytes maxL ret rm as' h0 Q := by
  intro ws
  refine MetFree.of_bodySF hp hisR ?_
  intro p e s m args below meth c s₁ Bd hml0 hP hK
  obtain ⟨rfl, hZ, hh, hI⟩ := hP
  exact body p e s m below meth c s₁ Bd.exec Bd.bytes hml0 (findClass_of_methodNamed Bd.named) (name_of_methodNamed Bd.named Bd.method).1 Bd.returns Bd.notSynchronized hZ ⟨[], Stand.of_body Bd, by rw [← hh, Bd.state]; rfl, Fr.nil n0⟩ hh ((State.WarmedH.refl s).since 0) (CHr.refl hI)
/-- ldc of a String constant of EL: what lies behind it -/
theorem own_ldcC (A : own_At p l e R (s.setVm vm0) m args below meth c n0 T h cells slots) (hx : p.tables.exec = Jvm.exec) (hZ : Z.Warmed39 (s.setVm vm0).vm) {own text : String} {index : Nat} (hown : (s.setVm vm0).vm.findClass own = some m.cls) (w : (Cond.stringLink own index text).before a0 Z = true) (wS : ∀ a ∈ Bundle.stringAtoms, a.before a0 Z = true)
    (hEL : EW Z a0 EL) (hmem : (own, index) ∈ EL) (C : CHr Z EL s.vm h0 vm0 h) (hS : s.Since vm0 k0) (hk : k0 ≤ h.size)
    {xs : List Int32} {z : Int32} (ht : (∀ c ∈ text.toList, c.toNat < 256) ∧ text.toList.map (fun c => Value.int (Jvm.Lit.byteI c.toNat.toUInt16)) = xs.map Value.int) (hz : ¬ z < 0) (hl : z.toNatClampNeg = xs.length)
    {g : JFrame} (hg : g.method = m) (hd : decode c.code g.pc = .ok (.ldc index, 2)) (n : Nat) (hn : 4 * text.toList.length ≤ n) (hbig : n ≤ 536870912) (hc : cells + 2 ≤ R.cells) (hl' : slots + (n + 4) ≤ R.slots)
    (k : ∀ T' h' a b vm1 k1, own_At p l e R (s.setVm vm1) m args below meth c n0 T' h' (cells + 2) (slots + (n + 4)) → Ext h h' → CHr Z EL vm0 h vm1 h' → s.Since vm1 k1 → k1 ≤ h'.size → Z.Warmed39 (s.setVm vm1).vm → (s.setVm vm1).vm.findClass own = some m.cls → (∀ x, Safe Z EL vm1 h' x → x ≠ a ∧ x ≠ b) →
      Exa Z h' a "java/lang/String" → Fld Z h' a "java/lang/String" "coder" "B" (.int 0) → Fld Z h' a "java/lang/String" "value" "[B" (.ref b) → own_Arr Z h' b .byte z (fun j => xs.getD j.toNatClampNeg 0) → own_Go p.tables e below G (T'.setTop { g with pc := g.pc + 2, stack := .ref a :: g.stack })) : own_Go p.tables e below G (T.setTop g) := by
  obtain ⟨locs, X, eT, N⟩ := A
  obtain ⟨a, T', h', k1, b, kk, r1, r2, r3, r4, r5, r6, r7, r8, r9, r10, r11, -, -, r14, -, r16, r15⟩ := ldcCH X hx hZ hown w wS eT hS hk hEL hmem C.1 ht hz (by rw [List.length_map]; exact hl) hg hd hn hbig hc hl'
  exact own_go r15 (k T' h' a b T'.vm k1 ⟨_, r1, r2, N⟩ r3 r14 r4 r5 r6 r7 r16 r8 r9 r10 (own_Arr.ofL r11 hl))
theorem own_callSC (A : own_At p l e R (s.setVm vm0) m args below meth c n0 T h cells slots) (hx : p.tables.exec = Jvm.exec) (hZ : Z.Warmed39 (s.setVm vm0).vm) {own : String} {index : Nat} {y : MethodName} {bytes : ByteArray} {maxL : Nat} {ret : Option FieldType} (hown : (s.setVm vm0).vm.findClass own = some m.cls)
    (w1 : (Cond.methodLink own index y).before a0 Z = true) (w2 : (Cond.static y).before a0 Z = true) (w3 : (Cond.initialized y.cls).before a0 Z = true) (w4 : (Cond.code y bytes maxL ret).before a0 Z = true) (hy : y.cls ≠ "java/lang/invoke/MethodHandle" ∧ y.cls ≠ "java/lang/invoke/VarHandle")
    (hEL : EW Z a0 EL) (C : CHr Z EL s.vm h0 vm0 h) (hS : s.Since vm0 k0) (hk : k0 ≤ h.size)
    {rm : Room} {argsL rest : List Value} (hM : own_MetC l Z EL n0 y bytes maxL ret rm argsL.toArray h Q) (W : Nat) (hfr : rm.frames + 1 ≤ R.frames) (hlo : W + (maxL + 11) + rm.locals ≤ R.locals) {g : JFrame} (hg : g.method = m) (hsize : g.locals.size = c.maxLocals)
    (hlen : ∀ sig, parseMethodDescriptor y.desc = some sig → argsL.length = sig.parameters.length) (hs : g.stack = argsL.reverse ++ rest) (hW : 2 * g.monitorRoom + (rest.map fun v => v.category).sum ≤ W) (hd : decode c.code g.pc = .ok (.invokestatic index, 3))
    (hc : cells + rm.cells ≤ R.cells) (hl : slots + rm.slots ≤ R.slots)
    (k : ∀ v T' h' vm1 k1, own_At p l e R (s.setVm vm1) m args below meth c n0 T' h' (cells + rm.cells) (slots + rm.slots) → Q v h' → CHr Z EL vm0 h vm1 h' → s.Since vm1 k1 → k1 ≤ h'.size → Z.Warmed39 (s.setVm vm1).vm → (s.setVm vm1).vm.findClass own = some m.cls → own_Go p.tables e below G (T'.setTop { g with pc := g.pc + 3, stack := v.toList ++ rest })) : own_Go p.tables e below G (T.setTop g) := by
  obtain ⟨locs, X, eT, N⟩ := A
  obtain ⟨v, _, ⟨T1, L1, k1, s1⟩, -, X1, hS1, hg1, ⟨Lc, ⟨hQ, N1⟩, l1, y1, z1, hC⟩, st⟩ := Jvm.RoadKit.callSS X hx (y := y) hown (mvT hZ w1) (mvT hZ w2) (mvT hZ w3) (mvT hZ w4) hy (backOfSH (Q := fun v h L => Q v h ∧ Fr n0 L) (W := W) (hM []) hZ w4 w3 hfr hlo hEL C.1) hg hsize (argsL := argsL) (rest := rest) hlen hs hW hd (fun _ _ => ⟨rfl, eT, hc, hl⟩)
  dsimp only [Pt.U, Pt.locs, Pt.cells, Pt.slots] at X1 hS1 hg1 l1 y1 z1 st hQ hC
  subst l1 y1 z1
  obtain ⟨r1, r2, r3, r4⟩ := rebS hS (eT ▸ hk) X1 hS1 hg1 hZ hown
  exact own_go (fun t k => st.trans k) (k v T1 T1.heap T1.vm _ ⟨_, r1, rfl, N.app N1⟩ hQ hC r2 (Nat.le_refl _) r3 r4)
theorem own_callVC (A : own_At p l e R (s.setVm vm0) m args below meth c n0 T h cells slots) (hx : p.tables.exec = Jvm.exec) (hZ : Z.Warmed39 (s.setVm vm0).vm) {own C' : String} {index : Nat} {y z : MethodName} {bytes : ByteArray} {maxL : Nat} {ret : Option FieldType} (hown : (s.setVm vm0).vm.findClass own = some m.cls)
    (w1 : (Cond.methodLink own index y).before a0 Z = true) (w2 : (Cond.declares y).before a0 Z = true) (w3 : (Cond.selects C' y z).before a0 Z = true) (w4 : (Cond.instanceMethod z).before a0 Z = true) (w5 : (Cond.initialized z.cls).before a0 Z = true) (w6 : (Cond.code z bytes maxL ret).before a0 Z = true) (nf : NotFace (s.setVm vm0) y)
    (hy : y.cls ≠ "java/lang/invoke/MethodHandle" ∧ y.cls ≠ "java/lang/invoke/VarHandle") (hEL : EW Z a0 EL) (C : CHr Z EL s.vm h0 vm0 h) (hS : s.Since vm0 k0) (hk : k0 ≤ h.size)
    {rm : Room} {b : Addr} {argsL rest : List Value} (E : Exa Z h b C') (hM : own_MetC l Z EL n0 z bytes maxL ret rm (.ref b :: argsL).toArray h Q) (W : Nat) (hfr : rm.frames + 1 ≤ R.frames) (hlo : W + (maxL + 11) + rm.locals ≤ R.locals) {g : JFrame} (hg : g.method = m) (hsize : g.locals.size = c.maxLocals)
    (hlen : ∀ sig, parseMethodDescriptor y.desc = some sig → argsL.length = sig.parameters.length) (hs : g.stack = argsL.reverse ++ .ref b :: rest) (hW : 2 * g.monitorRoom + (rest.map fun v => v.category).sum ≤ W) (hd : decode c.code g.pc = .ok (.invokevirtual index, 3))
    (hc : cells + rm.cells ≤ R.cells) (hl : slots + rm.slots ≤ R.slots)
    (k : ∀ v T' h' vm1 k1, own_At p l e R (s.setVm vm1) m args below meth c n0 T' h' (cells + rm.cells) (slots + rm.slots) → Q v h' → CHr Z EL vm0 h vm1 h' → s.Since vm1 k1 → k1 ≤ h'.size → Z.Warmed39 (s.setVm vm1).vm → (s.setVm vm1).vm.findClass own = some m.cls → own_Go p.tables e below G (T'.setTop { g with pc := g.pc + 3, stack := v.toList ++ rest })) : own_Go p.tables e below G (T.setTop g) := by
  obtain ⟨locs, X, eT, N⟩ := A
  obtain ⟨cq, kq, qa, qb, qc⟩ := isOf hZ eT E
  obtain ⟨v, _, ⟨T1, L1, k1, s1⟩, -, X1, hS1, hg1, ⟨Lc, ⟨hQ, N1⟩, l1, y1, z1, hC⟩, st⟩ := X.virtualBackS hx (y := y) (z := z) hown (mvT hZ w1) (mvT hZ w2) nf (mvT hZ w3) (mvT hZ w4) hy (backOfSH (Q := fun v h L => Q v h ∧ Fr n0 L) (W := W) (hM []) hZ w6 w5 hfr hlo hEL C.1) qa qc hg hsize (Steps.refl _) (argsL := argsL) (rest := rest) hlen hs hW hd (fun _ _ => ⟨rfl, eT, hc, hl⟩)
  dsimp only [Pt.U, Pt.locs, Pt.cells, Pt.slots] at X1 hS1 hg1 l1 y1 z1 st hQ hC
  subst l1 y1 z1
  obtain ⟨r1, r2, r3, r4⟩ := rebS hS (eT ▸ hk) X1 hS1 hg1 hZ hown
  exact own_go (fun t k => st.trans k) (k v T1 T1.heap T1.vm _ ⟨_, r1, rfl, N.app N1⟩ hQ hC r2 (Nat.le_refl _) r3 r4)
end OwnC
section OwnStr
variable {p : Program} {l : Launch} {e : Env} {R : Room} {s : State} {args : Array Value} {below : List Frame} {Z : State} {a0 : Array Value} {h h' : Heap} {n0 : Nat} {a b x : Addr} {ty : FieldType} {N : Int32} {f : Int32 → Int32}
theorem own_ofN {j : Int32} (hj : ¬ j < 0) : Int32.ofNat j.toNatClampNeg = j := (back32 hj).1
theorem own_toN {k : Nat} (hk : k < 2 ^ 31) : (Int32.ofNat k).toNatClampNeg = k := by
  rw [Int32.toNatClampNeg, own_nI hk]
  exact Int.toNat_natCast _
def own_lst (f : Int32 → Int32) (n : Nat) : List Int32 := (List.range n).map fun i => f (Int32.ofNat i)
theorem own_lst_len (f : Int32 → Int32) (n : Nat) : (own_lst f n).length = n := by simp [own_lst]
theorem own_lst_at (f : Int32 → Int32) (n k : Nat) (hk : k < n) (g : Int32 → Value) (d : Value) : ((own_lst f n).map g).getD k d = g (f (Int32.ofNat k)) := by
  rw [List.getD_eq_getElem?_getD, own_lst, List.map_map, List.getElem?_map, List.getElem?_range hk]
  rfl
theorem own_lst_mem (f : Int32 → Int32) (n : Nat) {c : Int32} (hc : c ∈ own_lst f n) : ∃ k, k < n ∧ c = f (Int32.ofNat k) := by
  obtain ⟨k, hk, e⟩ := List.mem_map.mp hc
  exact ⟨k, List.mem_range.mp hk, e.symm⟩
theorem own_Arr.arv {n : Nat} (F : own_Arr Z h a ty (Int32.ofNat n) f) (hn : n < 2 ^ 31) (hf : ∀ k, k < n → fits ty (.int (f (Int32.ofNat k))) = true) : ∃ k, Arv Z h a k ty (Int32.ofNat n) ((own_lst f n).map Value.int) (.int 0) := by
  obtain ⟨cl, A, S, M, H⟩ := F
  have S' : cl.slots.size = n := by rw [S, own_toN hn]
  refine ⟨cl.cls, cl, A, rfl, S, M, fun k hk => ?_, fun k hk => ?_⟩
  · have q := H (Int32.ofNat k) (own_nn (by omega)) ((own_nlt (by omega) hn).mpr (by omega))
    rw [own_toN (by omega)] at q
    rw [q, own_lst_at f n k (by omega)]
  · rw [own_lst_at f n k (by omega)]
    exact hf k (by omega)
theorem own_Arr.ofArv {n : Nat} {k : ClassId} {g : Int32 → Int32} {d : Value} (V : Arv Z h a k ty (Int32.ofNat n) (((own_lst f n).map g).map Value.int) d) (hn : n < 2 ^ 31) : own_Arr Z h a ty (Int32.ofNat n) (fun j => g (f j)) := by
  obtain ⟨cl, A, -, S, M, H, -⟩ := V
  refine ⟨cl, A, S, M, fun j h0 h1 => ?_⟩
  have hj : j.toNatClampNeg < n := by
    have q := inb_of S ⟨h0, h1⟩
    rw [S, own_toN hn] at q
    exact Nat.lt_of_not_le fun z => q (Or.inr z)
  have q := H j.toNatClampNeg (by rw [S, own_toN hn]; exact hj)
  rw [List.map_map, own_lst_at f n _ hj] at q
  rw [q, own_ofN h0]
  rfl
theorem own_fitC {z : Int32} (h0 : ¬ z < 0) (h1 : ¬ (255 : Int32) < z) : fits .char (.int z) = true := by
  have e1 : (255 : Int32).toInt = 255 := rfl
  have e0 : (0 : Int32).toInt = 0 := rfl
  have e2 : (65535 : Int32).toInt = 65535 := rfl
  rw [Int32.lt_iff_toInt_lt] at h0 h1
  simp only [fits, Bool.and_eq_true, decide_eq_true_eq]
  exact ⟨Int32.le_iff_toInt_le.mpr (by omega), Int32.le_iff_toInt_le.mpr (by omega)⟩
/-- new String(chars), each 0 to 255, as a call of this layer -/
theorem own_newStr {n W : Nat} {v0 c0 : Value} {z : Int32} (hZ : Z.Warmed39 s.vm) (hws : ∀ d ∈ StrChars.Road.words, d.before a0 Z = true) {kI : Nat} (wi : (Jvm.Cond.instantiable "java/lang/String" kI).before a0 Z = true) (hx0 : n0 ≤ x) (hh0 : n0 ≤ h.size)
    (E : Exa Z h x "java/lang/String") (V : Fld Z h x "java/lang/String" "value" "[B" v0) (C : Fld Z h x "java/lang/String" "coder" "B" c0) (K : own_Arr Z h b .char (Int32.ofNat n) f) (S : Sta Z h "java/lang/String" "COMPACT_STRINGS" "Z" (.int z)) (hz : ¬ z = 0)
    (l0 : 0 < n) (l2 : n ≤ 4000) (hp : ∀ k, k < n → ¬ f (Int32.ofNat k) < 0 ∧ ¬ (255 : Int32) < f (Int32.ofNat k)) (hfr : 4 ≤ R.frames) (hlo : W + 65 ≤ R.locals) :
    own_Bk l R p e below s args n0 (⟨"java/lang/String", "<init>", "([C)V"⟩ : MethodName) W #[.ref x, .ref b] h 1 n (fun v h' => v = none ∧ Keep h h' [x] ∧ Exa Z h' x "java/lang/String" ∧ Fld Z h' x "java/lang/String" "coder" "B" (.int 0) ∧ ∃ t, n0 ≤ t ∧ h.size ≤ t ∧ Fld Z h' x "java/lang/String" "value" "[B" (.ref t) ∧ own_Arr Z h' t .byte (Int32.ofNat n) (fun j => (f j).toInt8.toInt32)) := by
  obtain ⟨kC, KA⟩ := K.arv (by omega) (fun k hk => own_fitC (hp k hk).1 (hp k hk).2)
  refine Back.mono (StrChars.Road.backV (W := W) hZ hws wi (cs := own_lst f n) (n := n) hx0 hh0 E V C KA S hz (own_lst_len f n) rfl l0 l2 (fun c hc => by obtain ⟨k, hk, rfl⟩ := own_lst_mem f n hc; exact hp k hk) rfl hfr hlo) (fun P a q => q) (fun P a v B _ q => ?_)
  obtain ⟨L, ⟨q1, q2, q3, q4, q5, t, kb, q6, q7, q8, q9, q10⟩, r1, r2, r3⟩ := q
  exact ⟨L, ⟨⟨q1, q3, q4, q5, t, q6, q7, q9, own_Arr.ofArv q10 (by omega)⟩, q2⟩, r1, r2, r3⟩
end OwnStr
section OwnRef
variable {p : Program} {l : Launch} {e : Env} {R : Room} {s : State} {m : MethodId} {args : Array Value} {below : List Frame} {meth : Method} {c : Code} {T : State} {cells slots : Nat} {Z : State} {a0 : Array Value} {h h' : Heap} {n0 : Nat} {G : State → Outcome → Prop} {a b : Addr} {n j : Int32} {f : Int32 → Int32} {C : String}
/-- an array of references to objects of C: its length alone is told -/
def own_ArrR (Z : State) (h : Heap) (a : Addr) (C : String) (n : Int32) : Prop := ∃ cl : Cell, Arr Z h a cl (.object C) ∧ cl.slots.size = n.toNatClampNeg ∧ ¬ n < 0 ∧ Ovr Z cl.cls C
theorem own_ArrR.lt (F : own_ArrR Z h a C n) : a < h.size := by obtain ⟨_, A, -⟩ := F; exact A.lt
theorem own_ArrR.ext (F : own_ArrR Z h a C n) (E : Ext h h') : own_ArrR Z h' a C n := by obtain ⟨c, A, r⟩ := F; exact ⟨c, A.ext E, r⟩
theorem own_ArrR.other {sl : Nat} {v : Value} (F : own_ArrR Z h b C n) (W : Wr h h' a sl v) (q : b ≠ a) : own_ArrR Z h' b C n := by obtain ⟨c, A, r⟩ := F; exact ⟨c, A.other W q, r⟩
theorem own_ArrR.keep {ws : List Addr} (F : own_ArrR Z h a C n) (K : Keep h h' ws) (q : a ∉ ws) : own_ArrR Z h' a C n := by obtain ⟨c, A, r⟩ := F; exact ⟨c, ⟨K.2.1 a c A.1 q, A.2⟩, r⟩
theorem own_newR (A : own_At p l e R s m args below meth c n0 T h cells slots) (hx : p.tables.exec = Jvm.exec) (hZ : Z.Warmed39 s.vm) {own : String} {index : Nat} (hown : s.vm.findClass own = some m.cls) (w1 : (Cond.classLink own index C).before a0 Z = true) (w2 : (Cond.arrayOver (.object C)).before a0 Z = true)
    {g : JFrame} (hg : g.method = m) (hd : decode c.code g.pc = .ok (.anewarray index, 3)) {rest : List Value} (hs : g.stack = .int n :: rest) (hn : ¬ n < 0) (cap : Nat) (hcap : n.toNatClampNeg ≤ cap) (hb : cap * 8 ≤ 536870912) (hc : cells + 1 ≤ R.cells) (hl : slots + cap ≤ R.slots)
    (kk : ∀ T' h' a, a = h.size → own_At p l e R s m args below meth c n0 T' h' (cells + 1) (slots + cap) → Ext h h' → own_ArrR Z h' a C n → own_Go p.tables e below G (T'.setTop { g with pc := g.pc + 3, stack := .ref a :: rest })) : own_Go p.tables e below G (T.setTop g) := by
  obtain ⟨locs, X, eT, N⟩ := A
  obtain ⟨T1, h1, k1, X1, e1, E1, A1, O1, st⟩ := newR X hx hZ hown w1 w2 eT hg hd hs hn hcap hb hc hl
  exact own_go st (kk T1 h1 h.size rfl ⟨_, X1, e1, N⟩ E1 ⟨_, A1, sz_new _ _ _, hn, O1⟩)
theorem own_stR (A : own_At p l e R s m args below meth c n0 T h cells slots) (hx : p.tables.exec = Jvm.exec) (hZ : Z.Warmed39 s.vm) (F : own_ArrR Z h a C n) (hj : ¬ j < 0 ∧ j < n) (I : Ins Z h b C true) (q : n0 ≤ a) {g : JFrame} (hg : g.method = m) {rest : List Value} (hs : g.stack = .ref b :: .int j :: .ref a :: rest) (hd : decode c.code g.pc = .ok (.aastore, 1))
    (k : ∀ T' h', own_At p l e R s m args below meth c n0 T' h' cells slots → Wr h h' a j.toNatClampNeg (.ref b) → own_ArrR Z h' a C n → own_Go p.tables e below G (T'.setTop { g with pc := g.pc + 1, stack := rest })) : own_Go p.tables e below G (T.setTop g) := by
  obtain ⟨locs, X, eT, N⟩ := A
  obtain ⟨c1, A1, S1, M1, O1⟩ := id F
  obtain ⟨T1, h1, X1, e1, W1, st⟩ := stR X hx hZ eT A1 (inb_of S1 hj) rfl (Sto.of A1 O1 I) hg hs hd
  exact own_go st (k T1 h1 ⟨_, X1, e1, Fr.snoc X1 N q⟩ W1 ⟨_, A1.same W1, by rw [sz_set]; exact S1, M1, O1⟩)
theorem own_lenR (A : own_At p l e R s m args below meth c n0 T h cells slots) (hx : p.tables.exec = Jvm.exec) (hZ : Z.Warmed39 s.vm) (F : own_ArrR Z h a C n) {g : JFrame} (hg : g.method = m) {rest : List Value} (hs : g.stack = .ref a :: rest) (hd : decode c.code g.pc = .ok (.arraylength, 1))
    (k : own_Go p.tables e below G (T.setTop { g with pc := g.pc + 1, stack := .int n :: rest })) : own_Go p.tables e below G (T.setTop g) := by
  obtain ⟨locs, X, eT, N⟩ := A
  obtain ⟨c1, A1, S1, M1, H1⟩ := F
  rw [← len_of S1 M1] at k
  exact own_go (fun t k => X.arraylength hx (by rw [eT]; exact A1.1) (State.isArrayOf_alike hZ.alike A1.2.1) hg hs hd t k) k
theorem own_cast (A : own_At p l e R s m args below meth c n0 T h cells slots) (hx : p.tables.exec = Jvm.exec) (hZ : Z.Warmed39 s.vm) {own K : String} {index : Nat} (hown : s.vm.findClass own = some m.cls) (w : (Cond.classLink own index K).before a0 Z = true) (F : Ins Z h a K true)
    {g : JFrame} (hg : g.method = m) {rest : List Value} (hs : g.stack = .ref a :: rest) (hd : decode c.code g.pc = .ok (.checkcast index, 3))
    (k : ∀ T', own_At p l e R s m args below meth c n0 T' h cells slots → own_Go p.tables e below G (T'.setTop { g with pc := g.pc + 3 })) : own_Go p.tables e below G (T.setTop g) := by
  obtain ⟨locs, X, eT, N⟩ := A
  obtain ⟨T1, X1, e1, st⟩ := castY X hx hZ hown w eT F hg hs hd
  exact own_go st (k T1 ⟨_, X1, e1, N⟩)
theorem own_cloneB (A : own_At p l e R s m args below meth c n0 T h cells slots) (hx : p.tables.exec = Jvm.exec) (hZ : Z.Warmed39 s.vm) {own : String} {index : Nat} (hown : s.vm.findClass own = some m.cls)
    (w1 : (Cond.methodLink own index ⟨"[B", "clone", "()Ljava/lang/Object;"⟩).before a0 Z = true) (w2 : (Cond.sameMethod "[B" "java/lang/Object" "clone" "()Ljava/lang/Object;").before a0 Z = true) (w3 : (Cond.native ⟨"java/lang/Object", "clone", "()Ljava/lang/Object;"⟩).before a0 Z = true)
    (w4 : (Cond.instanceMethod ⟨"java/lang/Object", "clone", "()Ljava/lang/Object;"⟩).before a0 Z = true) (w5 : (Cond.selects "[B" ⟨"[B", "clone", "()Ljava/lang/Object;"⟩ ⟨"java/lang/Object", "clone", "()Ljava/lang/Object;"⟩).before a0 Z = true) (w6 : (Cond.castable "[B" "java/lang/Cloneable").before a0 Z = true)
    (F : own_Arr Z h a .byte n f) (E : Exa Z h a "[B") (hfit : ∀ j, ¬ j < 0 → j < n → fits .byte (.int (f j)) = true) {g : JFrame} (hg : g.method = m) (hsize : g.locals.size = c.maxLocals) {rest : List Value} (hs : g.stack = .ref a :: rest) (hd : decode c.code g.pc = .ok (.invokevirtual index, 3))
    (hf : 1 ≤ R.frames) (W : Nat) (hW : 2 * g.monitorRoom + (rest.map fun v => v.category).sum ≤ W) (hl : W + 14 ≤ R.locals) (cap : Nat) (hcap : n.toNatClampNeg ≤ cap) (hc : cells + 1 ≤ R.cells) (hsl : slots + cap ≤ R.slots)
    (k : ∀ T' h' b, b = h.size → own_At p l e R s m args below meth c n0 T' h' (cells + 1) (slots + cap) → Ext h h' → own_Arr Z h' b .byte n f → Exa Z h' b "[B" → own_Go p.tables e below G (T'.setTop { g with pc := g.pc + 3, stack := .ref b :: rest })) : own_Go p.tables e below G (T.setTop g) := by
  obtain ⟨locs, X, eT, N⟩ := A
  obtain ⟨c1, A1, S1, M1, H1⟩ := F
  have hn31 : n.toNatClampNeg < 2 ^ 31 := by rw [Int32.toNatClampNeg]; have := rng32 n; omega
  have FC : FitC Z c1 := fitC_of A1 fun i hi v hv => by
    rw [S1] at hi
    have e1 : (Int32.ofNat i).toNatClampNeg = i := own_toN (by omega)
    have e2 : Int32.ofNat n.toNatClampNeg = n := own_ofN M1
    have q := H1 (Int32.ofNat i) (own_nn (by omega)) (by rw [← e2]; exact (own_nlt (by omega) hn31).mpr hi)
    rw [e1] at q
    cases q.symm.trans hv
    exact hfit _ (own_nn (by omega)) (by rw [← e2]; exact (own_nlt (by omega) hn31).mpr hi)
  obtain ⟨T1, h1, X1, e1, E1, B1, Y1, st⟩ := cloneA X hx hZ hown w1 w2 w3 w4 w5 w6 eT A1 E FC hg hsize hs hd hf hW hl (cap := cap) (by rw [S1]; exact hcap) hc hsl
  exact own_go st (k T1 h1 h.size rfl ⟨_, X1, e1, N⟩ E1 ⟨_, B1, S1, M1, H1⟩ Y1)
theorem own_cpB (A : own_At p l e R s m args below meth c n0 T h cells slots) (hx : p.tables.exec = Jvm.exec) (hZ : Z.Warmed39 s.vm) {own : String} {index : Nat} (hown : s.vm.findClass own = some m.cls)
    (w1 : (Cond.methodLink own index Jvm.Stand.acN).before a0 Z = true) (w2 : (Cond.native Jvm.Stand.acN).before a0 Z = true) (w3 : (Cond.static Jvm.Stand.acN).before a0 Z = true) (w4 : (Cond.initialized "java/lang/System").before a0 Z = true)
    {na nb : Nat} {fa fb : Int32 → Int32} {sp dp nn : Int32} (Va : own_Arr Z h a .byte (Int32.ofNat na) fa) (Vb : own_Arr Z h b .byte (Int32.ofNat nb) fb) (ha : na < 2 ^ 31) (hb : nb < 2 ^ 31) (fa' : ∀ k, k < na → fits .byte (.int (fa (Int32.ofNat k))) = true) (fb' : ∀ k, k < nb → fits .byte (.int (fb (Int32.ofNat k))) = true)
    (h1 : ¬ sp < 0) (h2 : ¬ dp < 0) (h3 : ¬ nn < 0) (h4 : sp.toNatClampNeg + nn.toNatClampNeg ≤ na) (h5 : dp.toNatClampNeg + nn.toNatClampNeg ≤ nb) (ge : n0 ≤ b)
    {g : JFrame} (hg : g.method = m) (hsize : g.locals.size = c.maxLocals) {rest : List Value} (hs : g.stack = .int nn :: .int dp :: .ref b :: .int sp :: .ref a :: rest) (hd : decode c.code g.pc = .ok (.invokestatic index, 3))
    (hf : 1 ≤ R.frames) (W : Nat) (hW : 2 * g.monitorRoom + (rest.map fun v => v.category).sum ≤ W) (hlo : W + (nativeFrameWords "java/lang/System" "arraycopy" 5 + 11) ≤ R.locals)
    (k : ∀ T' h', own_At p l e R s m args below meth c n0 T' h' cells slots → Keep h h' [b] → own_Go p.tables e below G (T'.setTop { g with pc := g.pc + 3, stack := rest })) : own_Go p.tables e below G (T.setTop g) := by
  obtain ⟨locs, X, eT, N⟩ := A
  obtain ⟨ka, A1⟩ := Va.arv ha fa'
  obtain ⟨kb, B1⟩ := Vb.arv hb fb'
  obtain ⟨T1, h1', L, X1, e1, N1, K1, -, st⟩ := cpA X hx hZ hown w1 w2 w3 w4 eT A1 B1 (Or.inl ⟨rfl, rfl⟩) h1 h2 h3 (by rw [own_toN ha]; exact h4) (by rw [own_toN hb]; exact h5) rfl (by rw [List.length_map, own_lst_len]; exact h5) N ge hg hsize hs hd hf hW hlo
  exact own_go st (k T1 h1' ⟨_, X1, e1, N1⟩ K1)
end OwnRef
section OwnLit
open Jvm.Free.SB Jvm.Free.SBG
variable {p : Program} {l : Launch} {e : Env} {R : Room} {s : State} {m : MethodId} {args : Array Value} {below : List Frame} {meth : Method} {c : Code} {T : State} {cells slots : Nat} {Z : State} {a0 : Array Value} {h : Heap} {n0 : Nat} {G : State → Outcome → Prop} {vm0 : Vm} {k0 : Nat} {Ts : List String}
/-- what a String of the intern table is, said of the case's start Z: with the class of its bytes -/
theorem own_slZ {W : State} {lo hi : Nat} {a : Addr} {units : Array UInt16} {xs : List Int32} {z : Int32} (hal : Z.vm.Alike W.vm) (hin : SlIn lo hi W a units) (hlat : units.all (· < 256) = true) (hu : units.toList.map (fun u => Jvm.Lit.byteI u) = xs) (hz : ¬ z < 0) (hl : z.toNatClampNeg = xs.length) :
    ∃ b, Exa Z W.heap a "java/lang/String" ∧ Fld Z W.heap a "java/lang/String" "coder" "B" (.int 0) ∧ Fld Z W.heap a "java/lang/String" "value" "[B" (.ref b) ∧ Exa Z W.heap b "[B" ∧ own_Arr Z W.heap b .byte z (fun j => xs.getD j.toNatClampNeg 0) := by
  obtain ⟨q, cS, rfl, ⟨⟨s1, s2, s3, ⟨cv, kv, iv, s4, s4'⟩, ⟨cc, kc, ic, s5, s5'⟩, s6, s7, s8, s9, s10, s11, s12, -, -, -, -⟩, hfS, hcS⟩, ⟨kS, k1, k2, k3⟩, hB, hbyt, -⟩ := hin
  obtain ⟨kv', z4⟩ := ff_back hal s4
  obtain ⟨kc', z5⟩ := ff_back hal s5
  have fS : Z.vm.findClass "java/lang/String" = some q.sC.cls := by rw [← hal.findClass, hcS]; exact hfS
  have fB : Z.vm.findClass "[B" = some q.SA.cls := by rw [← hal.findClass]; exact hB
  obtain ⟨kz, hkz, -⟩ := Vm.findClass_spec fS
  obtain ⟨kz', hkz', ekz⟩ := hal.2.2 _ _ hkz
  obtain ⟨kb, hkb, -⟩ := Vm.findClass_spec fB
  obtain ⟨kb', hkb', ekb⟩ := hal.2.2 _ _ hkb
  obtain ⟨ns, k9, hk9, comp, hki⟩ := s11
  cases hk9.symm.trans hkb'
  have hk' : W.vm.classes[q.sC.cls]? = some kS := by rw [hcS]; exact k1
  cases hk'.symm.trans hkz'
  have kkd : kb.kind = .array comp .byte := by rw [ekb] at hki; exact hki
  have hsl : q.SA.slots = units.map fun u => Value.int (Jvm.Lit.byteI u) := by rw [hbyt, SBG.stringBytes_lat hlat]; rfl
  have hst : q.SA.vm.isStatics = false := by
    cases hv : q.SA.vm <;> first | rfl | exact absurd hv (ns _)
  have hsz : q.SA.slots.size = z.toNatClampNeg := by rw [hl, ← hu, hsl]; simp
  refine ⟨q.sd, ⟨q.sC, kz, s1, fS, hkz, s3, fun _ => by rw [k3, ekz]⟩, ⟨q.sC, cc, kc', ic, q.fSC, s1, z5, s7, s2, s3, by rw [← hal.assignable]; exact s5', s9⟩, ⟨q.sC, cv, kv', iv, q.fSV, s1, z4, s6, s2, s3, by rw [← hal.assignable]; exact s4', s8⟩,
    ⟨q.SA, kb, s10, fB, hkb, hst, fun o => by rw [kkd] at o; cases o⟩, q.SA, ⟨s10, ⟨ns, kb, hkb, comp, kkd⟩, s12⟩, hsz, hz, fun j h0 h1 => ?_⟩
  have hj : j.toNatClampNeg < q.SA.slots.size := Nat.lt_of_not_le fun w => inb_of hsz ⟨h0, h1⟩ (Or.inr w)
  have hju : j.toNatClampNeg < units.size := by rw [hsl, Array.size_map] at hj; exact hj
  show _ = some (Value.int (xs.getD j.toNatClampNeg 0))
  rw [hsl, ← hu]
  simp [hju, List.getD_eq_getElem?_getD]
theorem own_ldcB (A : own_At p l e R (s.setVm vm0) m args below meth c n0 T h cells slots) (hx : p.tables.exec = Jvm.exec) (hZ : Z.Warmed39 (s.setVm vm0).vm) {own text : String} {index : Nat} (hown : (s.setVm vm0).vm.findClass own = some m.cls) (w : (Cond.stringLink own index text).before a0 Z = true) (wS : ∀ a ∈ Bundle.stringAtoms, a.before a0 Z = true)
    (hS : s.Since vm0 k0) (hk : k0 ≤ h.size) (hn0 : s.heap.size ≤ n0) (hkeep : ∀ (b : Addr) (cl : Cell), Z.heap[b]? = some cl → s.heap[b]? = some cl) (I : IB Z vm0 Ts) (hnot : text ∉ Ts) (hh : Jvm.Lit.constHeld Z own index) (hcw : Jvm.Lit.compactW.before a0 Z = true)
    {xs : List Int32} {z : Int32} (ht : (∀ c ∈ text.toList, c.toNat < 256) ∧ text.toList.map (fun c => Jvm.Lit.byteI c.toNat.toUInt16) = xs) (hz : ¬ z < 0) (hl : z.toNatClampNeg = xs.length)
    {g : JFrame} (hg : g.method = m) (hd : decode c.code g.pc = .ok (.ldc index, 2)) (n : Nat) (hn : 4 * text.toList.length ≤ n) (hbig : n ≤ 536870912) (hc : cells + 2 ≤ R.cells) (hl' : slots + (n + 4) ≤ R.slots)
    (k : ∀ T' h' a b vm1 k1, own_At p l e R (s.setVm vm1) m args below meth c n0 T' h' (cells + 2) (slots + (n + 4)) → Ext h h' → s.Since vm1 k1 → k1 ≤ h'.size → Z.Warmed39 (s.setVm vm1).vm → (s.setVm vm1).vm.findClass own = some m.cls → IB Z vm1 (text :: Ts) →
      Exa Z h' a "java/lang/String" → Fld Z h' a "java/lang/String" "coder" "B" (.int 0) → Fld Z h' a "java/lang/String" "value" "[B" (.ref b) → Exa Z h' b "[B" → own_Arr Z h' b .byte z (fun j => xs.getD j.toNatClampNeg 0) → own_Go p.tables e below G (T'.setTop { g with pc := g.pc + 2, stack := .ref a :: g.stack })) : own_Go p.tables e below G (T.setTop g) := by
  obtain ⟨locs, X, eT, N⟩ := A
  have wi : (Cond.instantiable "java/lang/String" 4).before a0 Z = true := wS _ (by simp [Bundle.stringAtoms, Bundle.sN])
  have wa : (Cond.arrayClass .byte).before a0 Z = true := wS _ (by simp [Bundle.stringAtoms])
  have hH : ConstHeldL (s.setVm vm0) own index := heldCarry hZ w I hnot hkeep (heldStart hh w ht.1 hcw wa wi)
  have N' : Fr s.heap.size locs := fun y hy => Nat.le_trans hn0 (N y hy)
  obtain ⟨a, T', X', hS', -, hb, -, hint, ⟨units, htext, hin⟩, st⟩ := X.ldcColdF (oldF X N') hx (own := own) hown (mvS hZ w) (fun d hd => by
    have q := wS d hd
    simp only [Bundle.stringAtoms, List.mem_cons, List.not_mem_nil, or_false] at hd
    rcases hd with rfl | rfl | rfl | rfl | rfl | rfl | rfl
    · exact mv (s := s.setVm vm0) hZ q
    · exact mv (s := s.setVm vm0) hZ q
    · exact mvA (s := s.setVm vm0) hZ q
    · exact mv (s := s.setVm vm0) hZ q
    · exact mv (s := s.setVm vm0) hZ q
    · exact mv (s := s.setVm vm0) hZ q
    · exact mv (s := s.setVm vm0) hZ q) hH (fun units hu => Jvm.ClassFile.lat_of_text hu ht.1) hg hd hn hbig hc hl'
  subst eT
  have E := ext_of hb
  have hW : Z.Warmed39 T'.vm := State.Warmed39.trans (t := s.setVm vm0) hZ hS'.1
  obtain ⟨b, r1, r2, r3, r4, r5⟩ := own_slZ (xs := xs) (z := z) hW.alike hin (Jvm.ClassFile.lat_of_text htext ht.1) (by rw [← ht.2, Jvm.ClassFile.units_of_text htext ht.1, List.map_map]; rfl) hz hl
  have hTi : T.vm.interned = vm0.interned := X.warmed.interned_eq
  exact own_go st (k T' T'.heap a b T'.vm _ ⟨_, X', rfl, N⟩ E (hS.trans hS' (Nat.le_trans hk E.1)) (Nat.le_refl _) hW (by rw [show (s.setVm T'.vm).vm = T'.vm from rfl, hS'.1.alike.findClass]; exact hown) (I.step (by rw [← hTi]; exact hint)) r1 r2 r3 r4 r5)
end OwnLit
section OwnHand
variable {p : Program} {l : Launch} {e : Env} {R : Room} {s : State} {m : MethodId} {args : Array Value} {below : List Frame} {meth : Method} {c : Code} {T : State} {cells slots : Nat} {Z : State} {a0 : Array Value} {h : Heap} {n0 : Nat} {G : State → Outcome → Prop} {Q : Option Value → Heap → Prop}
/-- own_Met, of a body with an exception table whose walk throws nothing -/
def own_MetH (l : Launch) (Z : State) (n0 : Nat) (y : MethodName) (bytes : ByteArray) (maxL : Nat) (ret : Option FieldType) (hs : List (Nat × Nat × Nat × Nat)) (rm : Room) (as' : Array Value) (h0 : Heap) (Q : Option Value → Heap → Prop) : Prop :=
  ∀ ws, MetFree l y (head1 (Cond.codeWith y bytes maxL ret hs :: ws) rm) (fun a U => a = as' ∧ Z.Warmed39 U.vm ∧ U.heap = h0) (fun _ _ _ _ _ => True) (fun _ U o U' => ∃ v L, o = .returned v ∧ (Q v U'.heap ∧ Fr n0 L) ∧ FrameEnd U o U' L rm.cells rm.slots)
theorem own_metH {y : MethodName} {bytes : ByteArray} {maxL : Nat} {ret : Option FieldType} {hs : List (Nat × Nat × Nat × Nat)} {rm : Room} {as' : Array Value} {h0 : Heap} (hp : plainFor y = true)
    (body : ∀ (p : Program) (e : Env) (s : State) (m : MethodId) (below : List Frame) (meth : Method) (c : Code) (T : State), p.tables.exec = Jvm.exec → c.code = bytes → c.maxLocals = maxL → s.vm.findClass y.cls = some m.cls → meth.name = y.name → meth.sig.returnType = ret → meth.locks = false → Z.Warmed39 s.vm →
      own_At p l e rm s m as' below meth c n0 T h0 0 0 → own_Go p.tables e below (own_End n0 s rm.cells rm.slots Q) (T.setTop (entryFrame m as' maxL))) : own_MetH l Z n0 y bytes maxL ret hs rm as' h0 Q := by
  intro ws
  refine MetFree.of_bodySF hp hisWith ?_
  intro p e s m args below meth c s₁ Bd hml0 hP hK
  obtain ⟨rfl, hZ, hh⟩ := hP
  exact body p e s m below meth c s₁ Bd.exec Bd.bytes hml0 (findClass_of_methodNamed Bd.named) (name_of_methodNamed Bd.named Bd.method).1 Bd.returns Bd.notSynchronized hZ ⟨[], Stand.of_body Bd, by rw [← hh, Bd.state]; rfl, Fr.nil n0⟩
theorem own_callIH (A : own_At p l e R s m args below meth c n0 T h cells slots) (hx : p.tables.exec = Jvm.exec) (hZ : Z.Warmed39 s.vm) {own : String} {index : Nat} {y : MethodName} (hy1 : y.name = "<init>") {bytes : ByteArray} {maxL : Nat} {hs' : List (Nat × Nat × Nat × Nat)} (hown : s.vm.findClass own = some m.cls)
    (w1 : (Cond.methodLink own index y).before a0 Z = true) (w4 : (Cond.instanceMethod y).before a0 Z = true) (w5 : (Cond.initialized y.cls).before a0 Z = true) (w6 : (Cond.codeWith y bytes maxL none hs').before a0 Z = true)
    (hy : y.cls ≠ "java/lang/invoke/MethodHandle" ∧ y.cls ≠ "java/lang/invoke/VarHandle")
    {rm : Room} {b : Addr} {argsL rest : List Value} (hM : own_MetH l Z n0 y bytes maxL none hs' rm (.ref b :: argsL).toArray h Q) (W : Nat) (hfr : rm.frames + 1 ≤ R.frames) (hlo : W + (maxL + 11) + rm.locals ≤ R.locals) {g : JFrame} (hg : g.method = m) (hsize : g.locals.size = c.maxLocals)
    (hlen : ∀ sig, parseMethodDescriptor y.desc = some sig → argsL.length = sig.parameters.length) (hs : g.stack = argsL.reverse ++ .ref b :: rest) (hW : 2 * g.monitorRoom + (rest.map fun v => v.category).sum ≤ W) (hd : decode c.code g.pc = .ok (.invokespecial index, 3))
    (hc : cells + rm.cells ≤ R.cells) (hl : slots + rm.slots ≤ R.slots)
    (k : ∀ v T' h', own_At p l e R s m args below meth c n0 T' h' (cells + rm.cells) (slots + rm.slots) → Q v h' → own_Go p.tables e below G (T'.setTop { g with pc := g.pc + 3, stack := v.toList ++ rest })) : own_Go p.tables e below G (T.setTop g) := by
  obtain ⟨locs, X, eT, N⟩ := A
  obtain ⟨v, _, ⟨T1, L1, k1, s1⟩, -, X1, ⟨Lc, ⟨hQ, N1⟩, l1, y1, z1⟩, st⟩ := X.specialBackH hx (y := y) hy1 hown (mvT hZ w1) (mvT hZ w4) (mvT hZ w6) hy (backOfWith (Q := fun v h L => Q v h ∧ Fr n0 L) (W := W) (hM []) hZ w6 w5 hfr hlo) hg hsize (Steps.refl _) (a := b) (argsL := argsL) (rest := rest) hlen hs hW hd (fun _ _ => ⟨rfl, eT, hc, hl⟩)
  dsimp only [Pt.U, Pt.locs, Pt.cells, Pt.slots] at X1 l1 y1 z1 st hQ
  subst l1 y1 z1
  exact own_go (fun t k => st.trans k) (k v T1 T1.heap ⟨_, X1, rfl, N.app N1⟩ hQ)
end OwnHand
section OwnPriv
variable {p : Program} {l : Launch} {e : Env} {R : Room} {s : State} {m : MethodId} {args : Array Value} {below : List Frame} {meth : Method} {c : Code} {T : State} {cells slots : Nat} {Z : State} {a0 : Array Value} {h : Heap} {n0 : Nat} {G : State → Outcome → Prop} {Q : Option Value → Heap → Prop}
/-- invokevirtual of a private method; w3: any word 'selects' that lands in its class (so the class is no interface) -/
theorem own_callP (A : own_At p l e R s m args below meth c n0 T h cells slots) (hx : p.tables.exec = Jvm.exec) (hZ : Z.Warmed39 s.vm) {own C D : String} {index : Nat} {y x' y' : MethodName} {bytes : ByteArray} {maxL : Nat} {ret : Option FieldType} (hown : s.vm.findClass own = some m.cls)
    (w1 : (Cond.methodLink own index y).before a0 Z = true) (w2 : (Cond.instanceMethod y).before a0 Z = true) (wp : (Cond.privateMethod y).before a0 Z = true) (w3 : (Cond.selects D x' y').before a0 Z = true) (hcls : y'.cls = y.cls) (w5 : (Cond.initialized y.cls).before a0 Z = true) (w6 : (Cond.code y bytes maxL ret).before a0 Z = true)
    (hy : y.cls ≠ "java/lang/invoke/MethodHandle" ∧ y.cls ≠ "java/lang/invoke/VarHandle")
    {rm : Room} {b : Addr} {argsL rest : List Value} (E : Exa Z h b C) (hM : own_Met l Z n0 y bytes maxL ret rm (.ref b :: argsL).toArray h Q) (W : Nat) (hfr : rm.frames + 1 ≤ R.frames) (hlo : W + (maxL + 11) + rm.locals ≤ R.locals) {g : JFrame} (hg : g.method = m) (hsize : g.locals.size = c.maxLocals)
    (hlen : ∀ sig, parseMethodDescriptor y.desc = some sig → argsL.length = sig.parameters.length) (hs : g.stack = argsL.reverse ++ .ref b :: rest) (hW : 2 * g.monitorRoom + (rest.map fun v => v.category).sum ≤ W) (hd : decode c.code g.pc = .ok (.invokevirtual index, 3))
    (hc : cells + rm.cells ≤ R.cells) (hl : slots + rm.slots ≤ R.slots)
    (k : ∀ v T' h', own_At p l e R s m args below meth c n0 T' h' (cells + rm.cells) (slots + rm.slots) → Q v h' → own_Go p.tables e below G (T'.setTop { g with pc := g.pc + 3, stack := v.toList ++ rest })) : own_Go p.tables e below G (T.setTop g) := by
  obtain ⟨locs, X, eT, N⟩ := A
  obtain ⟨cell, kc, h1, -, -, h4, -⟩ := E
  have hp : s.PrivateAt y := Cond.privateMethod_at (mvP (args := args) hZ wp)
  have hsel : (Cond.selects y.cls y y).before args s = true := by
    obtain ⟨c2, r2, m2, -, -, q3, -, kP, hkP, hkPi⟩ := Cond.selects_spec (mvT (args := args) hZ w3)
    exact selects_self_of_private (c := m2.cls) (k := kP) (by rw [← hcls]; exact findClass_of_methodNamed q3) hkP hkPi hp (mvT hZ w2) hy
  obtain ⟨v, _, ⟨T1, L1, k1, s1⟩, -, X1, ⟨Lc, ⟨hQ, N1⟩, l1, y1, z1⟩, st⟩ := X.privateBack hx (y := y) hown (mvT hZ w1) (mvT hZ w2) hsel hp (mvT hZ w6) hy (backOf (Q := fun v h L => Q v h ∧ Fr n0 L) (W := W) (hM []) hZ w6 w5 hfr hlo) hg hsize (Steps.refl _) (a := b) (cell := cell) (by rw [eT]; exact h1) (fun q e => by rw [e] at h4; cases h4) (argsL := argsL) (rest := rest) hlen hs hW hd (fun _ _ => ⟨rfl, eT, hc, hl⟩)
  dsimp only [Pt.U, Pt.locs, Pt.cells, Pt.slots] at X1 l1 y1 z1 st hQ
  subst l1 y1 z1
  exact own_go (fun t k => st.trans k) (k v T1 T1.heap ⟨_, X1, rfl, N.app N1⟩ hQ)
end OwnPriv
section OwnSb
variable {p : Program} {l : Launch} {e : Env} {R : Room} {s : State} {m : MethodId} {args : Array Value} {below : List Frame} {meth : Method} {c : Code} {T : State} {cells slots : Nat} {Z : State} {a0 : Array Value} {h : Heap} {n0 : Nat} {G : State → Outcome → Prop} {Q : Option Value → Heap → Prop}
theorem own_same_self {D : String} {y x' y' : MethodName} (w2 : (Cond.instanceMethod y).before a0 Z = true) (w3 : (Cond.selects D x' y').before a0 Z = true) (hcls : y'.cls = y.cls) (hy : y.cls ≠ "java/lang/invoke/MethodHandle" ∧ y.cls ≠ "java/lang/invoke/VarHandle") : (Cond.sameMethod y.cls y.cls y.name y.desc).before a0 Z = true := by
  obtain ⟨c2, r2, m2, -, -, q3, -, kP, hkP, hkPi⟩ := Cond.selects_spec w3
  obtain ⟨mk, methM, hnamed, hmethM, -, -⟩ := Cond.instanceMethod_spec w2
  have hfound : Z.methodFound? y.cls y.name y.desc = some mk := State.methodFound?_of_named hnamed hy
  have hc : Z.vm.findClass y.cls = some mk.cls := findClass_of_methodNamed hnamed
  have hc2 : Z.vm.findClass y'.cls = some m2.cls := findClass_of_methodNamed q3
  rw [hcls, hc] at hc2
  have em : mk.cls = m2.cls := Option.some.inj hc2
  have hn : Z.methodNamed? ⟨y.cls, y.name, y.desc⟩ = some mk := hnamed
  rw [← em] at hkP
  simp [Cond.before, Cond.holds, Cond.value, hc, hfound, hn, hkP, hkPi]
theorem own_notFace {D : String} {y x' y' : MethodName} (w3 : (Cond.selects D x' y').before args s = true) (hcls : y'.cls = y.cls) : NotFace s y := by
  intro r0 hn
  obtain ⟨c2, r2, m2, -, -, q3, -, kP, hkP, hkPi⟩ := Cond.selects_spec w3
  have hc : s.vm.findClass y.cls = some r0.cls := findClass_of_methodNamed hn
  have hc2 : s.vm.findClass y'.cls = some m2.cls := findClass_of_methodNamed q3
  rw [hcls, hc] at hc2
  rw [Option.some.inj hc2]
  exact ⟨kP, hkP, hkPi⟩
/-- invokespecial of the superclass's method -/
theorem own_callU (A : own_At p l e R s m args below meth c n0 T h cells slots) (hx : p.tables.exec = Jvm.exec) (hZ : Z.Warmed39 s.vm) {own K D : String} {index : Nat} {y x' y' : MethodName} {bytes : ByteArray} {maxL : Nat} {ret : Option FieldType} (hown : s.vm.findClass own = some m.cls)
    (w1 : (Cond.methodLink own index y).before a0 Z = true) (w2 : (Cond.instanceMethod y).before a0 Z = true) (w3 : (Cond.selects D x' y').before a0 Z = true) (hcls : y'.cls = y.cls) (w4 : (Cond.superclass own y.cls).before a0 Z = true) (hn : y.name ≠ "<init>") (w5 : (Cond.initialized y.cls).before a0 Z = true) (w6 : (Cond.code y bytes maxL ret).before a0 Z = true)
    (hy : y.cls ≠ "java/lang/invoke/MethodHandle" ∧ y.cls ≠ "java/lang/invoke/VarHandle")
    {rm : Room} {b : Addr} {argsL rest : List Value} (I : Ins Z h b K true) (hM : own_Met l Z n0 y bytes maxL ret rm (.ref b :: argsL).toArray h Q) (W : Nat) (hfr : rm.frames + 1 ≤ R.frames) (hlo : W + (maxL + 11) + rm.locals ≤ R.locals) {g : JFrame} (hg : g.method = m) (hsize : g.locals.size = c.maxLocals)
    (hlen : ∀ sig, parseMethodDescriptor y.desc = some sig → argsL.length = sig.parameters.length) (hs : g.stack = argsL.reverse ++ .ref b :: rest) (hW : 2 * g.monitorRoom + (rest.map fun v => v.category).sum ≤ W) (hd : decode c.code g.pc = .ok (.invokespecial index, 3))
    (hc : cells + rm.cells ≤ R.cells) (hl : slots + rm.slots ≤ R.slots)
    (k : ∀ v T' h', own_At p l e R s m args below meth c n0 T' h' (cells + rm.cells) (slots + rm.slots) → Q v h' → own_Go p.tables e below G (T'.setTop { g with pc := g.pc + 3, stack := v.toList ++ rest })) : own_Go p.tables e below G (T.setTop g) := by
  obtain ⟨locs, X, eT, N⟩ := A
  obtain ⟨v, _, ⟨T1, L1, k1, s1⟩, -, X1, ⟨Lc, ⟨hQ, N1⟩, l1, y1, z1⟩, st⟩ := superBack X hx hZ (y := y) hown w1 (own_same_self w2 w3 hcls hy) w2 w4 hn (backOf (Q := fun v h L => Q v h ∧ Fr n0 L) (W := W) (hM []) hZ w6 w5 hfr hlo) eT I hg hsize w6 (argsL := argsL) (rest := rest) hlen hs hW hd (fun _ _ => ⟨rfl, eT, hc, hl⟩)
  dsimp only [Pt.U, Pt.locs, Pt.cells, Pt.slots] at X1 l1 y1 z1 st hQ
  subst l1 y1 z1
  exact own_go (fun t k => st.trans k) (k v T1 T1.heap ⟨_, X1, rfl, N.app N1⟩ hQ)
theorem own_Arr.safe {a : Addr} {ty : FieldType} {n : Int32} {f : Int32 → Int32} {vm : Vm} {EL : List (String × Nat)} (hal : Z.vm.Alike vm) (F : own_Arr Z h a ty n f) (ht : ty ≠ .byte) : Safe Z EL vm h a := by obtain ⟨cl, A, -⟩ := F; exact Safe.arr hal A ht
/-- the array begins with these -/
def own_Pre (f : Int32 → Int32) (xs : List Int32) : Prop := ∀ k, k < xs.length → f (Int32.ofNat k) = xs.getD k 0
/-- the array's first n places hold bytes -/
def own_Byt (f : Int32 → Int32) (n : Nat) : Prop := ∀ k, k < n → fits .byte (.int (f (Int32.ofNat k))) = true
/-- what a copy of nn places leaves -/
def own_cpf (fa : Int32 → Int32) (sp dp nn : Nat) (fb : Int32 → Int32) (j : Int32) : Int32 := if dp ≤ j.toNatClampNeg ∧ j.toNatClampNeg < dp + nn then fa (Int32.ofNat (sp + (j.toNatClampNeg - dp))) else fb j
theorem own_cpL {a b : Addr} (A : own_At p l e R s m args below meth c n0 T h cells slots) (hx : p.tables.exec = Jvm.exec) (hZ : Z.Warmed39 s.vm) {own : String} {index : Nat} (hown : s.vm.findClass own = some m.cls)
    (w1 : (Cond.methodLink own index Jvm.Stand.acN).before a0 Z = true) (w2 : (Cond.native Jvm.Stand.acN).before a0 Z = true) (w3 : (Cond.static Jvm.Stand.acN).before a0 Z = true) (w4 : (Cond.initialized "java/lang/System").before a0 Z = true)
    {na nb sp dp nn : Nat} {fa fb : Int32 → Int32} (Va : own_Arr Z h a .byte (Int32.ofNat na) fa) (Vb : own_Arr Z h b .byte (Int32.ofNat nb) fb) (ha : na < 2 ^ 31) (hb : nb < 2 ^ 31) (fa' : own_Byt fa na) (fb' : own_Byt fb nb)
    (h4 : sp + nn ≤ na) (h5 : dp + nn ≤ nb) (ge : n0 ≤ b)
    {g : JFrame} (hg : g.method = m) (hsize : g.locals.size = c.maxLocals) {rest : List Value} (hs : g.stack = .int (Int32.ofNat nn) :: .int (Int32.ofNat dp) :: .ref b :: .int (Int32.ofNat sp) :: .ref a :: rest) (hd : decode c.code g.pc = .ok (.invokestatic index, 3))
    (hf : 1 ≤ R.frames) (W : Nat) (hW : 2 * g.monitorRoom + (rest.map fun v => v.category).sum ≤ W) (hlo : W + (nativeFrameWords "java/lang/System" "arraycopy" 5 + 11) ≤ R.locals)
    (k : ∀ T' h', own_At p l e R s m args below meth c n0 T' h' cells slots → Keep h h' [b] → own_Arr Z h' b .byte (Int32.ofNat nb) (own_cpf fa sp dp nn fb) → own_Go p.tables e below G (T'.setTop { g with pc := g.pc + 3, stack := rest })) : own_Go p.tables e below G (T.setTop g) := by
  obtain ⟨locs, X, eT, N⟩ := A
  obtain ⟨ka, A1⟩ := Va.arv ha fa'
  obtain ⟨kb, B1⟩ := Vb.arv hb fb'
  have en : (Int32.ofNat nn).toNatClampNeg = nn := own_toN (by omega)
  have ed : (Int32.ofNat dp).toNatClampNeg = dp := own_toN (by omega)
  have es : (Int32.ofNat sp).toNatClampNeg = sp := own_toN (by omega)
  obtain ⟨T1, h1', L, X1, e1, N1, K1, V1, st⟩ := cpA X hx hZ hown w1 w2 w3 w4 eT A1 B1 (Or.inl ⟨rfl, rfl⟩) (own_nn (by omega)) (own_nn (by omega)) (own_nn (by omega)) (by rw [es, en, own_toN ha]; exact h4) (by rw [ed, en, own_toN hb]; exact h5) rfl (by rw [List.length_map, own_lst_len, ed, en]; exact h5) N ge hg hsize hs hd hf hW hlo
  refine own_go st (k T1 h1' ⟨_, X1, e1, N1⟩ K1 ?_)
  obtain ⟨cl, A2, -, S2, M2, H2, -⟩ := V1
  refine ⟨cl, A2, S2, M2, fun j j0 j1 => ?_⟩
  have hj : j.toNatClampNeg < nb := by
    have q := inb_of S2 ⟨j0, j1⟩
    rw [S2, own_toN hb] at q
    exact Nat.lt_of_not_le fun z => q (Or.inr z)
  have q := H2 j.toNatClampNeg (by rw [S2, own_toN hb]; exact hj)
  rw [en, ed, es] at q
  rw [q]
  have ej : Int32.ofNat j.toNatClampNeg = j := own_ofN j0
  congr 1
  unfold own_cpf
  rw [List.getD_eq_getElem?_getD]
  by_cases c1 : j.toNatClampNeg < dp
  · rw [if_neg (by omega), List.append_assoc, List.getElem?_append_left (by simp [own_lst_len]; omega), List.getElem?_take_of_lt c1, ← List.getD_eq_getElem?_getD, own_lst_at fb nb _ (by omega), ej]
  · by_cases c2 : j.toNatClampNeg < dp + nn
    · rw [if_pos ⟨by omega, c2⟩, List.append_assoc, List.getElem?_append_right (by simp [own_lst_len]; omega), List.getElem?_append_left (by simp [own_lst_len]; omega)]
      have e3 : (List.take dp ((own_lst fb nb).map Value.int)).length = dp := by simp [own_lst_len]; omega
      rw [e3, List.getElem?_map, List.getElem?_range (by omega)]
      show ((own_lst fa na).map Value.int).getD (sp + (j.toNatClampNeg - dp)) (.int 0) = _
      rw [own_lst_at fa na _ (by omega)]
    · rw [if_neg (by omega), List.append_assoc, List.getElem?_append_right (by simp [own_lst_len]; omega), List.getElem?_append_right (by simp [own_lst_len]; omega), List.getElem?_drop]
      have e3 : (List.take dp ((own_lst fb nb).map Value.int)).length = dp := by simp [own_lst_len]; omega
      rw [e3, List.length_map, List.length_range, show dp + nn + (j.toNatClampNeg - dp - nn) = j.toNatClampNeg by omega, ← List.getD_eq_getElem?_getD, own_lst_at fb nb _ (by omega), ej]
theorem own_Pre.app {fa fb : Int32 → Int32} {xs ys : List Int32} (hp : own_Pre fb ys) (hq : own_Pre fa xs) (hb : ys.length + xs.length < 2 ^ 31) : own_Pre (own_cpf fa 0 ys.length xs.length fb) (ys ++ xs) := by
  intro k hk
  rw [List.length_append] at hk
  unfold own_cpf
  rw [own_toN (by omega), List.getD_eq_getElem?_getD]
  by_cases c1 : k < ys.length
  · rw [if_neg (by omega), hp k c1, List.getElem?_append_left c1, List.getD_eq_getElem?_getD]
  · rw [if_pos ⟨by omega, by omega⟩, Nat.zero_add, hq _ (by omega), List.getElem?_append_right (by omega), List.getD_eq_getElem?_getD]
theorem own_Byt.cp {fa fb : Int32 → Int32} {na nb sp dp nn : Nat} (hp : own_Byt fb nb) (hq : own_Byt fa na) (h4 : sp + nn ≤ na) (hb : nb < 2 ^ 31) : own_Byt (own_cpf fa sp dp nn fb) nb := by
  intro k hk
  unfold own_cpf
  rw [own_toN (by omega)]
  split
  · exact hq _ (by omega)
  · exact hp k hk
end OwnSb
theorem own_hws {Z : State} {a0 : Array Value} (hw : ∀ d ∈ tables_1, d.before a0 Z = true) : ∀ d ∈ StrChars.Road.words, d.before a0 Z = true := fun d hd => hw d ((by decide +kernel : ∀ d ∈ StrChars.Road.words, d ∈ tables_1) d hd)
theorem own_shr0 (x : Int32) : x >>> ((0 : Int32) &&& 31) = x := by rw [show (0 : Int32) &&& 31 = 0 from rfl]; apply Int32.toBitVec_inj.mp; simp
theorem own_shl0 (x : Int32) : x <<< ((0 : Int32) &&& 31) = x := by rw [show (0 : Int32) &&& 31 = 0 from rfl]; apply Int32.toBitVec_inj.mp; simp
theorem own_cap16 (a b : Nat) (h : a + b ≤ 16) : ¬ (0 : Int32) < (Int32.ofNat (a + b) - (16 : Int32)) := by
  have h1 := c_isub (Int32.ofNat (a + b)) 16
  have h2 := rng32 (Int32.ofNat (a + b) - (16 : Int32))
  rw [own_nI (by omega)] at h1
  have e : (16 : Int32).toInt = 16 := rfl
  have e0 : (0 : Int32).toInt = 0 := rfl
  rw [Int32.lt_iff_toInt_lt]
  omega
theorem own_sub0 (x : Int32) : x - (0 : Int32) = x := Int32.sub_zero x
theorem ef_11 (m : MethodId) (r0 : Addr) : entryFrame m #[(.ref r0)] 1 = mkF m 0 #[.val (.ref r0)] [] := by first | (simp [entryFrame, mkF, argsToLocals, Value.category]; done) | rfl
theorem pn_11 : plainName "java/lang/String" = true := by first | (simp [plainName, overriddenIn]; done) | decide +kernel
theorem d11_0 : decode jdk_42_method_152_code 0 = .ok (.getstatic 38, 3) := by decide +kernel
theorem d11_3 : decode jdk_42_method_152_code 3 = .ok (.ifCond .eq 10, 3) := by decide +kernel
theorem d11_6 : decode jdk_42_method_152_code 6 = .ok (.aload_n 0, 1) := by decide +kernel
theorem d11_7 : decode jdk_42_method_152_code 7 = .ok (.getfield 15, 3) := by decide +kernel
theorem d11_10 : decode jdk_42_method_152_code 10 = .ok (.goto 4, 3) := by decide +kernel
theorem d11_14 : decode jdk_42_method_152_code 14 = .ok (.ireturn, 1) := by decide +kernel
set_option maxRecDepth 65536 in
set_option maxHeartbeats 40000000 in
theorem rm11 (l : Launch) (Z : State) (a0 : Array Value) (hw : ∀ d ∈ tables_1, d.before a0 Z = true) (r0 : Addr) (z_C : Int32) (h0 : Heap) (n0 : Nat) (S_C0 : Sta Z h0 "java/lang/String" "COMPACT_STRINGS" "Z" (.int z_C)) (hz : ¬ z_C = 0) (Fc : Fld Z h0 r0 "java/lang/String" "coder" "B" (.int (0 : Int32))) :
    own_Met l Z n0 (⟨"java/lang/String", "coder", "()B"⟩ : MethodName) jdk_42_method_152_code 1 (some .byte) ({ frames := 0, cells := 0, slots := 0, locals := 0 } : Room) #[(.ref r0)] h0 (fun v h => v = some (.int 0) ∧ h0 = h) := by
  refine own_met (plainFor_of_name pn_11) ?_
  intro p e s m below meth c T0 hx hby hml hown hnm hret hlk hZ A0
  rw [ef_11]
  show own_Go _ _ _ _ (T0.setTop (mkF m 0 #[.val (.ref r0)] []))
  refine own_getS A0 hx hZ hown (host := "") (Or.inl (hw _ (List.mem_of_getElem? (i := 76) rfl))) Via.refl S_C0 rfl (hb hby d11_0) (fun T1 A2 => ?_)
  show own_Go _ _ _ _ (T1.setTop (mkF m 3 #[.val (.ref r0)] [(.int z_C)]))
  have hc3 : ¬ (z_C = (0 : Int32)) := hz
  refine own_go (fun t_ k_ => XS.ifNo A2.here hx rfl (hb hby d11_3) rfl ((if0 _ _).trans (feq hc3).1) k_) ?_
  show own_Go _ _ _ _ (T1.setTop (mkF m 6 #[.val (.ref r0)] []))
  refine own_go (fun t_ k_ => XS.aloadN A2.here hx rfl (hb hby d11_6) rfl rfl k_) ?_
  show own_Go _ _ _ _ (T1.setTop (mkF m 7 #[.val (.ref r0)] [(.ref r0)]))
  refine own_getF A2 hx hZ hown (host := "") (Or.inl (hw _ (List.mem_of_getElem? (i := 77) rfl))) Via.refl Fc rfl rfl (hb hby d11_7) (fun T4 A5 => ?_)
  show own_Go _ _ _ _ (T4.setTop (mkF m 10 #[.val (.ref r0)] [(.int (0 : Int32))]))
  refine own_go (fun t_ k_ => XS.goto A5.here hx rfl (pc0 := 10) (pc' := 14) rfl (hb hby d11_10) (by decide) (by decide) k_) ?_
  show own_Go _ _ _ _ (T4.setTop (mkF m 14 #[.val (.ref r0)] [(.int (0 : Int32))]))
  refine own_retN A5 hx (t := .byte) hret (by simp) hlk (by decide) (by decide) (hb hby d11_14) ?_
  exact ⟨rfl, rfl⟩
theorem ef_10 (m : MethodId) (r0 : Addr) : entryFrame m #[(.ref r0)] 1 = mkF m 0 #[.val (.ref r0)] [] := by first | (simp [entryFrame, mkF, argsToLocals, Value.category]; done) | rfl
theorem d10_0 : decode jdk_42_method_54_code 0 = .ok (.aload_n 0, 1) := by decide +kernel
theorem d10_1 : decode jdk_42_method_54_code 1 = .ok (.getfield 9, 3) := by decide +kernel
theorem d10_4 : decode jdk_42_method_54_code 4 = .ok (.arraylength, 1) := by decide +kernel
theorem d10_5 : decode jdk_42_method_54_code 5 = .ok (.aload_n 0, 1) := by decide +kernel
theorem d10_6 : decode jdk_42_method_54_code 6 = .ok (.invokevirtual 335, 3) := by decide +kernel
theorem pd___B : parseMethodDescriptor "()B" = some ⟨[], some .byte⟩ := by decide +kernel
theorem d10_9 : decode jdk_42_method_54_code 9 = .ok (.ishr, 1) := by decide +kernel
theorem d10_10 : decode jdk_42_method_54_code 10 = .ok (.ireturn, 1) := by decide +kernel
set_option maxRecDepth 65536 in
set_option maxHeartbeats 40000000 in
theorem rm10 (l : Launch) (Z : State) (a0 : Array Value) (hw : ∀ d ∈ tables_1, d.before a0 Z = true) (r0 : Addr) (z_C : Int32) (t0 : Addr) (f : Int32 → Int32) (xs : List Int32) (h0 : Heap) (n0 : Nat) (S_C0 : Sta Z h0 "java/lang/String" "COMPACT_STRINGS" "Z" (.int z_C)) (hz : ¬ z_C = 0) (Es : Exa Z h0 r0 "java/lang/String") (Fcs : Fld Z h0 r0 "java/lang/String" "coder" "B" (.int (0 : Int32))) (Fvs : Fld Z h0 r0 "java/lang/String" "value" "[B" (.ref t0)) (Vs : own_Arr Z h0 t0 .byte (Int32.ofNat xs.length) f) :
    own_Met l Z n0 (⟨"java/lang/String", "length", "()I"⟩ : MethodName) jdk_42_method_54_code 1 (some .int) ({ frames := 1, cells := 0, slots := 0, locals := 13 } : Room) #[(.ref r0)] h0 (fun v h => v = some (.int (Int32.ofNat xs.length)) ∧ h0 = h) := by
  refine own_met (plainFor_of_name pn_11) ?_
  intro p e s m below meth c T0 hx hby hml hown hnm hret hlk hZ A0
  rw [ef_10]
  show own_Go _ _ _ _ (T0.setTop (mkF m 0 #[.val (.ref r0)] []))
  refine own_go (fun t_ k_ => XS.aloadN A0.here hx rfl (hb hby d10_0) rfl rfl k_) ?_
  show own_Go _ _ _ _ (T0.setTop (mkF m 1 #[.val (.ref r0)] [(.ref r0)]))
  refine own_getF A0 hx hZ hown (host := "") (Or.inl (hw _ (List.mem_of_getElem? (i := 70) rfl))) Via.refl Fvs rfl rfl (hb hby d10_1) (fun T1 A2 => ?_)
  show own_Go _ _ _ _ (T1.setTop (mkF m 4 #[.val (.ref r0)] [(.ref t0)]))
  refine own_len A2 hx hZ Vs rfl rfl (hb hby d10_4) ?_
  show own_Go _ _ _ _ (T1.setTop (mkF m 5 #[.val (.ref r0)] [(.int (Int32.ofNat xs.length))]))
  refine own_go (fun t_ k_ => XS.aloadN A2.here hx rfl (hb hby d10_5) rfl rfl k_) ?_
  show own_Go _ _ _ _ (T1.setTop (mkF m 6 #[.val (.ref r0)] [(.ref r0), (.int (Int32.ofNat xs.length))]))
  refine own_callV A2 hx hZ (y := (⟨"java/lang/String", "coder", "()B"⟩ : MethodName)) (z := (⟨"java/lang/String", "coder", "()B"⟩ : MethodName)) hown (hw _ (List.mem_of_getElem? (i := 71) rfl)) (hw _ (List.mem_of_getElem? (i := 72) rfl)) (hw _ (List.mem_of_getElem? (i := 74) rfl)) (hw _ (List.mem_of_getElem? (i := 73) rfl)) (hw _ (List.mem_of_getElem? (i := 8) rfl)) (hw _ (List.mem_of_getElem? (i := 75) rfl)) (notFace_of_selects (args := #[]) (mvT hZ (hw _ (List.mem_of_getElem? (i := 74) rfl)))) (by decide) (b := r0) (argsL := []) (rest := [(.int (Int32.ofNat xs.length))]) Es (rm11 l Z a0 hw r0 z_C h0 n0 S_C0 hz Fcs) 1 (by decide) (by decide) rfl (by rw [hml]; rfl) (lenOf pd___B rfl) rfl (by show 2 * 0 + _ ≤ _; exact Nat.le_of_eq rfl) (hb hby d10_6) (by decide) (by decide) (fun v6 T3 h5 A4 hQ7 => ?_)
  obtain ⟨rfl, rfl⟩ := hQ7
  show own_Go _ _ _ _ (T3.setTop (mkF m 9 #[.val (.ref r0)] [(.int (0 : Int32)), (.int (Int32.ofNat xs.length))]))
  refine own_go (fun t_ k_ => XS.ishr A4.here hx rfl (hb hby d10_9) rfl k_) ?_
  show own_Go _ _ _ _ (T3.setTop (mkF m 10 #[.val (.ref r0)] [(.int ((Int32.ofNat xs.length) >>> ((0 : Int32) &&& 31)))]))
  rw [own_shr0]
  show own_Go _ _ _ _ (T3.setTop (mkF m 10 #[.val (.ref r0)] [(.int (Int32.ofNat xs.length))]))
  refine own_retI A4 hx hret hlk (by decide) (by decide) (hb hby d10_10) ?_
  exact ⟨rfl, rfl⟩
theorem ef_12 (m : MethodId) (r0 : Addr) (p1 : Int32) : entryFrame m #[(.ref r0), (.int p1)] 3 = mkF m 0 #[.val (.ref r0), .val (.int p1), .unset] [] := by first | (simp [entryFrame, mkF, argsToLocals, Value.category]; done) | rfl
theorem pn_12 : plainName "java/lang/AbstractStringBuilder" = true := by first | (simp [plainName, overriddenIn]; done) | decide +kernel
theorem d12_0 : decode jdk_68_method_9_code 0 = .ok (.aload_n 0, 1) := by decide +kernel
theorem d12_1 : decode jdk_68_method_9_code 1 = .ok (.getfield 15, 3) := by decide +kernel
theorem d12_4 : decode jdk_68_method_9_code 4 = .ok (.arraylength, 1) := by decide +kernel
theorem d12_5 : decode jdk_68_method_9_code 5 = .ok (.aload_n 0, 1) := by decide +kernel
theorem d12_6 : decode jdk_68_method_9_code 6 = .ok (.getfield 22, 3) := by decide +kernel
theorem d12_9 : decode jdk_68_method_9_code 9 = .ok (.ishr, 1) := by decide +kernel
theorem d12_10 : decode jdk_68_method_9_code 10 = .ok (.istore_n 2, 1) := by decide +kernel
theorem d12_11 : decode jdk_68_method_9_code 11 = .ok (.iload_n 1, 1) := by decide +kernel
theorem d12_12 : decode jdk_68_method_9_code 12 = .ok (.iload_n 2, 1) := by decide +kernel
theorem d12_13 : decode jdk_68_method_9_code 13 = .ok (.isub, 1) := by decide +kernel
theorem d12_14 : decode jdk_68_method_9_code 14 = .ok (.ifCond .le 24, 3) := by decide +kernel
theorem d12_38 : decode jdk_68_method_9_code 38 = .ok (.return_, 1) := by decide +kernel
set_option maxRecDepth 65536 in
set_option maxHeartbeats 40000000 in
theorem rm12 (l : Launch) (Z : State) (a0 : Array Value) (hw : ∀ d ∈ tables_1, d.before a0 Z = true) (r0 : Addr) (p1 : Int32) (v0 : Addr) (g : Int32 → Int32) (pc_ : Int32) (h0 : Heap) (n0 : Nat) (Eb : Exa Z h0 r0 "java/lang/StringBuilder") (Fbv : Fld Z h0 r0 "java/lang/AbstractStringBuilder" "value" "[B" (.ref v0)) (Fbc : Fld Z h0 r0 "java/lang/AbstractStringBuilder" "coder" "B" (.int (0 : Int32))) (Fbn : Fld Z h0 r0 "java/lang/AbstractStringBuilder" "count" "I" (.int pc_)) (Vb : own_Arr Z h0 v0 .byte (16 : Int32) g) (hcap : ¬ (0 : Int32) < (p1 - (16 : Int32))) :
    own_Met l Z n0 (⟨"java/lang/AbstractStringBuilder", "ensureCapacityInternal", "(I)V"⟩ : MethodName) jdk_68_method_9_code 3 none ({ frames := 0, cells := 0, slots := 0, locals := 0 } : Room) #[(.ref r0), (.int p1)] h0 (fun v h => v = none ∧ h0 = h) := by
  refine own_met (plainFor_of_name pn_12) ?_
  intro p e s m below meth c T0 hx hby hml hown hnm hret hlk hZ A0
  rw [ef_12]
  show own_Go _ _ _ _ (T0.setTop (mkF m 0 #[.val (.ref r0), .val (.int p1), .unset] []))
  refine own_go (fun t_ k_ => XS.aloadN A0.here hx rfl (hb hby d12_0) rfl rfl k_) ?_
  show own_Go _ _ _ _ (T0.setTop (mkF m 1 #[.val (.ref r0), .val (.int p1), .unset] [(.ref r0)]))
  refine own_getF A0 hx hZ hown (host := "") (Or.inl (hw _ (List.mem_of_getElem? (i := 51) rfl))) Via.refl Fbv rfl rfl (hb hby d12_1) (fun T1 A2 => ?_)
  show own_Go _ _ _ _ (T1.setTop (mkF m 4 #[.val (.ref r0), .val (.int p1), .unset] [(.ref v0)]))
  refine own_len A2 hx hZ Vb rfl rfl (hb hby d12_4) ?_
  show own_Go _ _ _ _ (T1.setTop (mkF m 5 #[.val (.ref r0), .val (.int p1), .unset] [(.int (16 : Int32))]))
  refine own_go (fun t_ k_ => XS.aloadN A2.here hx rfl (hb hby d12_5) rfl rfl k_) ?_
  show own_Go _ _ _ _ (T1.setTop (mkF m 6 #[.val (.ref r0), .val (.int p1), .unset] [(.ref r0), (.int (16 : Int32))]))
  refine own_getF A2 hx hZ hown (host := "") (Or.inl (hw _ (List.mem_of_getElem? (i := 53) rfl))) Via.refl Fbc rfl rfl (hb hby d12_6) (fun T3 A4 => ?_)
  show own_Go _ _ _ _ (T3.setTop (mkF m 9 #[.val (.ref r0), .val (.int p1), .unset] [(.int (0 : Int32)), (.int (16 : Int32))]))
  refine own_go (fun t_ k_ => XS.ishr A4.here hx rfl (hb hby d12_9) rfl k_) ?_
  show own_Go _ _ _ _ (T3.setTop (mkF m 10 #[.val (.ref r0), .val (.int p1), .unset] [(.int (16 : Int32))]))
  refine own_go (fun t_ k_ => XS.istoreN A4.here hx rfl (hb hby d12_10) rfl (l' := #[.val (.ref r0), .val (.int p1), .val (.int (16 : Int32))]) rfl k_) ?_
  show own_Go _ _ _ _ (T3.setTop (mkF m 11 #[.val (.ref r0), .val (.int p1), .val (.int (16 : Int32))] []))
  refine own_go (fun t_ k_ => XS.iloadN A4.here hx rfl (hb hby d12_11) rfl k_) ?_
  show own_Go _ _ _ _ (T3.setTop (mkF m 12 #[.val (.ref r0), .val (.int p1), .val (.int (16 : Int32))] [(.int p1)]))
  refine own_go (fun t_ k_ => XS.iloadN A4.here hx rfl (hb hby d12_12) rfl k_) ?_
  show own_Go _ _ _ _ (T3.setTop (mkF m 13 #[.val (.ref r0), .val (.int p1), .val (.int (16 : Int32))] [(.int (16 : Int32)), (.int p1)]))
  refine own_go (fun t_ k_ => XS.isub A4.here hx rfl (hb hby d12_13) rfl k_) ?_
  show own_Go _ _ _ _ (T3.setTop (mkF m 14 #[.val (.ref r0), .val (.int p1), .val (.int (16 : Int32))] [(.int (p1 - (16 : Int32)))]))
  have hc5 : ¬ ((0 : Int32) < (p1 - (16 : Int32))) := hcap
  refine own_go (fun t_ k_ => XS.ifYes A4.here hx rfl (pc0 := 14) (pc' := 38) rfl (hb hby d12_14) rfl ((if0 _ _).trans (flt hc5).2.2.2) (by decide) (by decide) k_) ?_
  show own_Go _ _ _ _ (T3.setTop (mkF m 38 #[.val (.ref r0), .val (.int p1), .val (.int (16 : Int32))] []))
  refine own_retV A4 hx hret hlk (by decide) (by decide) (hb hby d12_38) ?_
  exact ⟨rfl, rfl⟩
theorem ef_14 (m : MethodId) (r0 : Addr) (r1 : Addr) : entryFrame m #[(.ref r0), (.ref r1)] 2 = mkF m 0 #[.val (.ref r0), .val (.ref r1)] [] := by first | (simp [entryFrame, mkF, argsToLocals, Value.category]; done) | rfl
theorem d14_0 : decode jdk_68_method_71_code 0 = .ok (.getstatic 18, 3) := by decide +kernel
theorem d14_3 : decode jdk_68_method_71_code 3 = .ok (.ifCond .eq 18, 3) := by decide +kernel
theorem d14_6 : decode jdk_68_method_71_code 6 = .ok (.aload_n 0, 1) := by decide +kernel
theorem d14_7 : decode jdk_68_method_71_code 7 = .ok (.getfield 22, 3) := by decide +kernel
theorem d14_10 : decode jdk_68_method_71_code 10 = .ok (.aload_n 1, 1) := by decide +kernel
theorem d14_11 : decode jdk_68_method_71_code 11 = .ok (.invokevirtual 40, 3) := by decide +kernel
theorem d14_14 : decode jdk_68_method_71_code 14 = .ok (.if_icmp .eq 7, 3) := by decide +kernel
theorem d14_21 : decode jdk_68_method_71_code 21 = .ok (.return_, 1) := by decide +kernel
set_option maxRecDepth 65536 in
set_option maxHeartbeats 40000000 in
theorem rm14 (l : Launch) (Z : State) (a0 : Array Value) (hw : ∀ d ∈ tables_1, d.before a0 Z = true) (r0 : Addr) (r1 : Addr) (z_C : Int32) (h0 : Heap) (n0 : Nat) (S_C0 : Sta Z h0 "java/lang/String" "COMPACT_STRINGS" "Z" (.int z_C)) (hz : ¬ z_C = 0) (Fbc : Fld Z h0 r0 "java/lang/AbstractStringBuilder" "coder" "B" (.int (0 : Int32))) (E1 : Exa Z h0 r1 "java/lang/String") (Fc1 : Fld Z h0 r1 "java/lang/String" "coder" "B" (.int (0 : Int32))) :
    own_Met l Z n0 (⟨"java/lang/AbstractStringBuilder", "inflateIfNeededFor", "(Ljava/lang/String;)V"⟩ : MethodName) jdk_68_method_71_code 2 none ({ frames := 1, cells := 0, slots := 0, locals := 13 } : Room) #[(.ref r0), (.ref r1)] h0 (fun v h => v = none ∧ h0 = h) := by
  refine own_met (plainFor_of_name pn_12) ?_
  intro p e s m below meth c T0 hx hby hml hown hnm hret hlk hZ A0
  rw [ef_14]
  show own_Go _ _ _ _ (T0.setTop (mkF m 0 #[.val (.ref r0), .val (.ref r1)] []))
  refine own_getS A0 hx hZ hown (host := "") (Or.inl (hw _ (List.mem_of_getElem? (i := 50) rfl))) Via.refl S_C0 rfl (hb hby d14_0) (fun T1 A2 => ?_)
  show own_Go _ _ _ _ (T1.setTop (mkF m 3 #[.val (.ref r0), .val (.ref r1)] [(.int z_C)]))
  have hc3 : ¬ (z_C = (0 : Int32)) := hz
  refine own_go (fun t_ k_ => XS.ifNo A2.here hx rfl (hb hby d14_3) rfl ((if0 _ _).trans (feq hc3).1) k_) ?_
  show own_Go _ _ _ _ (T1.setTop (mkF m 6 #[.val (.ref r0), .val (.ref r1)] []))
  refine own_go (fun t_ k_ => XS.aloadN A2.here hx rfl (hb hby d14_6) rfl rfl k_) ?_
  show own_Go _ _ _ _ (T1.setTop (mkF m 7 #[.val (.ref r0), .val (.ref r1)] [(.ref r0)]))
  refine own_getF A2 hx hZ hown (host := "") (Or.inl (hw _ (List.mem_of_getElem? (i := 53) rfl))) Via.refl Fbc rfl rfl (hb hby d14_7) (fun T4 A5 => ?_)
  show own_Go _ _ _ _ (T4.setTop (mkF m 10 #[.val (.ref r0), .val (.ref r1)] [(.int (0 : Int32))]))
  refine own_go (fun t_ k_ => XS.aloadN A5.here hx rfl (hb hby d14_10) rfl rfl k_) ?_
  show own_Go _ _ _ _ (T4.setTop (mkF m 11 #[.val (.ref r0), .val (.ref r1)] [(.ref r1), (.int (0 : Int32))]))
  refine own_callV A5 hx hZ (y := (⟨"java/lang/String", "coder", "()B"⟩ : MethodName)) (z := (⟨"java/lang/String", "coder", "()B"⟩ : MethodName)) hown (hw _ (List.mem_of_getElem? (i := 95) rfl)) (hw _ (List.mem_of_getElem? (i := 72) rfl)) (hw _ (List.mem_of_getElem? (i := 74) rfl)) (hw _ (List.mem_of_getElem? (i := 73) rfl)) (hw _ (List.mem_of_getElem? (i := 8) rfl)) (hw _ (List.mem_of_getElem? (i := 75) rfl)) (notFace_of_selects (args := #[]) (mvT hZ (hw _ (List.mem_of_getElem? (i := 74) rfl)))) (by decide) (b := r1) (argsL := []) (rest := [(.int (0 : Int32))]) E1 (rm11 l Z a0 hw r1 z_C h0 n0 S_C0 hz Fc1) 1 (by decide) (by decide) rfl (by rw [hml]; rfl) (lenOf pd___B rfl) rfl (by show 2 * 0 + _ ≤ _; exact Nat.le_of_eq rfl) (hb hby d14_11) (by decide) (by decide) (fun v9 T6 h8 A7 hQ10 => ?_)
  obtain ⟨rfl, rfl⟩ := hQ10
  show own_Go _ _ _ _ (T6.setTop (mkF m 14 #[.val (.ref r0), .val (.ref r1)] [(.int (0 : Int32)), (.int (0 : Int32))]))
  have hc11 : (0 : Int32) = (0 : Int32) := (by decide)
  refine own_go (fun t_ k_ => XS.icmpYes A7.here hx rfl (pc0 := 14) (pc' := 21) rfl (hb hby d14_14) rfl (teq hc11).1 (by decide) (by decide) k_) ?_
  show own_Go _ _ _ _ (T6.setTop (mkF m 21 #[.val (.ref r0), .val (.ref r1)] []))
  refine own_retV A7 hx hret hlk (by decide) (by decide) (hb hby d14_21) ?_
  exact ⟨rfl, rfl⟩
theorem ef_15 (m : MethodId) (r0 : Addr) (r1 : Addr) (y2 : Int32) (y3 : Int32) : entryFrame m #[(.ref r0), (.ref r1), (.int y2), (.int y3)] 4 = mkF m 0 #[.val (.ref r0), .val (.ref r1), .val (.int y2), .val (.int y3)] [] := by first | (simp [entryFrame, mkF, argsToLocals, Value.category]; done) | rfl
theorem d15_0 : decode jdk_42_method_147_code 0 = .ok (.aload_n 0, 1) := by decide +kernel
theorem d15_1 : decode jdk_42_method_147_code 1 = .ok (.invokevirtual 335, 3) := by decide +kernel
theorem d15_4 : decode jdk_42_method_147_code 4 = .ok (.iload_n 3, 1) := by decide +kernel
theorem d15_5 : decode jdk_42_method_147_code 5 = .ok (.if_icmp .ne 23, 3) := by decide +kernel
theorem d15_8 : decode jdk_42_method_147_code 8 = .ok (.aload_n 0, 1) := by decide +kernel
theorem d15_9 : decode jdk_42_method_147_code 9 = .ok (.getfield 9, 3) := by decide +kernel
theorem d15_12 : decode jdk_42_method_147_code 12 = .ok (.iconst 0, 1) := by decide +kernel
theorem d15_13 : decode jdk_42_method_147_code 13 = .ok (.aload_n 1, 1) := by decide +kernel
theorem d15_14 : decode jdk_42_method_147_code 14 = .ok (.iload_n 2, 1) := by decide +kernel
theorem d15_15 : decode jdk_42_method_147_code 15 = .ok (.iload_n 3, 1) := by decide +kernel
theorem d15_16 : decode jdk_42_method_147_code 16 = .ok (.ishl, 1) := by decide +kernel
theorem d15_17 : decode jdk_42_method_147_code 17 = .ok (.aload_n 0, 1) := by decide +kernel
theorem d15_18 : decode jdk_42_method_147_code 18 = .ok (.getfield 9, 3) := by decide +kernel
theorem d15_21 : decode jdk_42_method_147_code 21 = .ok (.arraylength, 1) := by decide +kernel
theorem d15_22 : decode jdk_42_method_147_code 22 = .ok (.invokestatic 212, 3) := by decide +kernel
theorem d15_25 : decode jdk_42_method_147_code 25 = .ok (.goto 18, 3) := by decide +kernel
theorem d15_43 : decode jdk_42_method_147_code 43 = .ok (.return_, 1) := by decide +kernel
set_option maxRecDepth 65536 in
set_option maxHeartbeats 40000000 in
theorem rm15 (l : Launch) (Z : State) (a0 : Array Value) (hw : ∀ d ∈ tables_1, d.before a0 Z = true) (r0 : Addr) (r1 : Addr) (z_C : Int32) (t0 : Addr) (f : Int32 → Int32) (xs : List Int32) (g : Int32 → Int32) (dp : Nat) (h0 : Heap) (n0 : Nat) (S_C0 : Sta Z h0 "java/lang/String" "COMPACT_STRINGS" "Z" (.int z_C)) (hz : ¬ z_C = 0) (Es : Exa Z h0 r0 "java/lang/String") (Fcs : Fld Z h0 r0 "java/lang/String" "coder" "B" (.int (0 : Int32))) (Fvs : Fld Z h0 r0 "java/lang/String" "value" "[B" (.ref t0)) (Vs : own_Arr Z h0 t0 .byte (Int32.ofNat xs.length) f) (Vb : own_Arr Z h0 r1 .byte (16 : Int32) g) (g1 : n0 ≤ r1) (ne_t0_r1 : t0 ≠ r1) (ne_r0_r1 : r0 ≠ r1) (Bs : own_Byt f xs.length) (Bb : own_Byt g 16) (hfit : dp + xs.length ≤ 16) :
    own_Met l Z n0 (⟨"java/lang/String", "getBytes", "([BIB)V"⟩ : MethodName) jdk_42_method_147_code 4 none ({ frames := 1, cells := 0, slots := 0, locals := 40 } : Room) #[(.ref r0), (.ref r1), (.int (Int32.ofNat dp)), (.int (0 : Int32))] h0 (fun v h => v = none ∧ Keep h0 h [r1] ∧ own_Arr Z h r1 .byte (16 : Int32) (own_cpf f 0 dp xs.length g)) := by
  refine own_met (plainFor_of_name pn_11) ?_
  intro p e s m below meth c T0 hx hby hml hown hnm hret hlk hZ A0
  rw [ef_15]
  show own_Go _ _ _ _ (T0.setTop (mkF m 0 #[.val (.ref r0), .val (.ref r1), .val (.int (Int32.ofNat dp)), .val (.int (0 : Int32))] []))
  refine own_go (fun t_ k_ => XS.aloadN A0.here hx rfl (hb hby d15_0) rfl rfl k_) ?_
  show own_Go _ _ _ _ (T0.setTop (mkF m 1 #[.val (.ref r0), .val (.ref r1), .val (.int (Int32.ofNat dp)), .val (.int (0 : Int32))] [(.ref r0)]))
  refine own_callV A0 hx hZ (y := (⟨"java/lang/String", "coder", "()B"⟩ : MethodName)) (z := (⟨"java/lang/String", "coder", "()B"⟩ : MethodName)) hown (hw _ (List.mem_of_getElem? (i := 71) rfl)) (hw _ (List.mem_of_getElem? (i := 72) rfl)) (hw _ (List.mem_of_getElem? (i := 74) rfl)) (hw _ (List.mem_of_getElem? (i := 73) rfl)) (hw _ (List.mem_of_getElem? (i := 8) rfl)) (hw _ (List.mem_of_getElem? (i := 75) rfl)) (notFace_of_selects (args := #[]) (mvT hZ (hw _ (List.mem_of_getElem? (i := 74) rfl)))) (by decide) (b := r0) (argsL := []) (rest := []) Es (rm11 l Z a0 hw r0 z_C h0 n0 S_C0 hz Fcs) 0 (by decide) (by decide) rfl (by rw [hml]; rfl) (lenOf pd___B rfl) rfl (by show 2 * 0 + _ ≤ _; exact Nat.le_of_eq rfl) (hb hby d15_1) (by decide) (by decide) (fun v4 T1 h3 A2 hQ5 => ?_)
  obtain ⟨rfl, rfl⟩ := hQ5
  show own_Go _ _ _ _ (T1.setTop (mkF m 4 #[.val (.ref r0), .val (.ref r1), .val (.int (Int32.ofNat dp)), .val (.int (0 : Int32))] [(.int (0 : Int32))]))
  refine own_go (fun t_ k_ => XS.iloadN A2.here hx rfl (hb hby d15_4) rfl k_) ?_
  show own_Go _ _ _ _ (T1.setTop (mkF m 5 #[.val (.ref r0), .val (.ref r1), .val (.int (Int32.ofNat dp)), .val (.int (0 : Int32))] [(.int (0 : Int32)), (.int (0 : Int32))]))
  have hc6 : (0 : Int32) = (0 : Int32) := (by decide)
  refine own_go (fun t_ k_ => XS.icmpNo A2.here hx rfl (hb hby d15_5) rfl (teq hc6).2 k_) ?_
  show own_Go _ _ _ _ (T1.setTop (mkF m 8 #[.val (.ref r0), .val (.ref r1), .val (.int (Int32.ofNat dp)), .val (.int (0 : Int32))] []))
  refine own_go (fun t_ k_ => XS.aloadN A2.here hx rfl (hb hby d15_8) rfl rfl k_) ?_
  show own_Go _ _ _ _ (T1.setTop (mkF m 9 #[.val (.ref r0), .val (.ref r1), .val (.int (Int32.ofNat dp)), .val (.int (0 : Int32))] [(.ref r0)]))
  refine own_getF A2 hx hZ hown (host := "") (Or.inl (hw _ (List.mem_of_getElem? (i := 70) rfl))) Via.refl Fvs rfl rfl (hb hby d15_9) (fun T7 A8 => ?_)
  show own_Go _ _ _ _ (T7.setTop (mkF m 12 #[.val (.ref r0), .val (.ref r1), .val (.int (Int32.ofNat dp)), .val (.int (0 : Int32))] [(.ref t0)]))
  refine own_go (fun t_ k_ => XS.iconst A8.here hx rfl (hb hby d15_12) k_) ?_
  show own_Go _ _ _ _ (T7.setTop (mkF m 13 #[.val (.ref r0), .val (.ref r1), .val (.int (Int32.ofNat dp)), .val (.int (0 : Int32))] [(.int (0 : Int32)), (.ref t0)]))
  refine own_go (fun t_ k_ => XS.aloadN A8.here hx rfl (hb hby d15_13) rfl rfl k_) ?_
  show own_Go _ _ _ _ (T7.setTop (mkF m 14 #[.val (.ref r0), .val (.ref r1), .val (.int (Int32.ofNat dp)), .val (.int (0 : Int32))] [(.ref r1), (.int (0 : Int32)), (.ref t0)]))
  refine own_go (fun t_ k_ => XS.iloadN A8.here hx rfl (hb hby d15_14) rfl k_) ?_
  show own_Go _ _ _ _ (T7.setTop (mkF m 15 #[.val (.ref r0), .val (.ref r1), .val (.int (Int32.ofNat dp)), .val (.int (0 : Int32))] [(.int (Int32.ofNat dp)), (.ref r1), (.int (0 : Int32)), (.ref t0)]))
  refine own_go (fun t_ k_ => XS.iloadN A8.here hx rfl (hb hby d15_15) rfl k_) ?_
  show own_Go _ _ _ _ (T7.setTop (mkF m 16 #[.val (.ref r0), .val (.ref r1), .val (.int (Int32.ofNat dp)), .val (.int (0 : Int32))] [(.int (0 : Int32)), (.int (Int32.ofNat dp)), (.ref r1), (.int (0 : Int32)), (.ref t0)]))
  refine own_go (fun t_ k_ => XS.ishl A8.here hx rfl (hb hby d15_16) rfl k_) ?_
  show own_Go _ _ _ _ (T7.setTop (mkF m 17 #[.val (.ref r0), .val (.ref r1), .val (.int (Int32.ofNat dp)), .val (.int (0 : Int32))] [(.int ((Int32.ofNat dp) <<< ((0 : Int32) &&& 31))), (.ref r1), (.int (0 : Int32)), (.ref t0)]))
  rw [own_shl0]
  show own_Go _ _ _ _ (T7.setTop (mkF m 17 #[.val (.ref r0), .val (.ref r1), .val (.int (Int32.ofNat dp)), .val (.int (0 : Int32))] [(.int (Int32.ofNat dp)), (.ref r1), (.int (0 : Int32)), (.ref t0)]))
  refine own_go (fun t_ k_ => XS.aloadN A8.here hx rfl (hb hby d15_17) rfl rfl k_) ?_
  show own_Go _ _ _ _ (T7.setTop (mkF m 18 #[.val (.ref r0), .val (.ref r1), .val (.int (Int32.ofNat dp)), .val (.int (0 : Int32))] [(.ref r0), (.int (Int32.ofNat dp)), (.ref r1), (.int (0 : Int32)), (.ref t0)]))
  refine own_getF A8 hx hZ hown (host := "") (Or.inl (hw _ (List.mem_of_getElem? (i := 70) rfl))) Via.refl Fvs rfl rfl (hb hby d15_18) (fun T9 A10 => ?_)
  show own_Go _ _ _ _ (T9.setTop (mkF m 21 #[.val (.ref r0), .val (.ref r1), .val (.int (Int32.ofNat dp)), .val (.int (0 : Int32))] [(.ref t0), (.int (Int32.ofNat dp)), (.ref r1), (.int (0 : Int32)), (.ref t0)]))
  refine own_len A10 hx hZ Vs rfl rfl (hb hby d15_21) ?_
  show own_Go _ _ _ _ (T9.setTop (mkF m 22 #[.val (.ref r0), .val (.ref r1), .val (.int (Int32.ofNat dp)), .val (.int (0 : Int32))] [(.int (Int32.ofNat xs.length)), (.int (Int32.ofNat dp)), (.ref r1), (.int (0 : Int32)), (.ref t0)]))
  refine own_cpL A10 hx hZ hown (hw _ (List.mem_of_getElem? (i := 101) rfl)) (hw _ (List.mem_of_getElem? (i := 104) rfl)) (hw _ (List.mem_of_getElem? (i := 102) rfl)) (hw _ (List.mem_of_getElem? (i := 103) rfl)) (na := xs.length) (nb := 16) (sp := 0) (dp := dp) (nn := xs.length) Vs Vb (by omega) (by omega) Bs Bb (by omega) hfit g1 rfl (by rw [hml]; rfl) (rest := []) rfl (hb hby d15_22) (by decide) 0 (by show 2 * 0 + _ ≤ _; exact Nat.le_of_eq rfl) (by decide +kernel) (fun T11 h13 A12 K14 V15 => ?_)
  have E16 : Exa Z h13 r0 "java/lang/String" := Es.keep K14
  have F17 : Fld Z h13 r0 "java/lang/String" "coder" "B" (.int (0 : Int32)) := Fcs.keep K14 (ninS ne_r0_r1 nin0)
  have F18 : Fld Z h13 r0 "java/lang/String" "value" "[B" (.ref t0) := Fvs.keep K14 (ninS ne_r0_r1 nin0)
  have V19 : own_Arr Z h13 t0 .byte (Int32.ofNat xs.length) f := Vs.keep K14 (ninS ne_t0_r1 nin0)
  have K20 : Keep h0 h13 [r1] := (Keep.refl h0 [r1]).trans K14 (allS (Or.inl (List.mem_of_getElem? (i := 0) rfl)) all0)
  show own_Go _ _ _ _ (T11.setTop (mkF m 25 #[.val (.ref r0), .val (.ref r1), .val (.int (Int32.ofNat dp)), .val (.int (0 : Int32))] []))
  refine own_go (fun t_ k_ => XS.goto A12.here hx rfl (pc0 := 25) (pc' := 43) rfl (hb hby d15_25) (by decide) (by decide) k_) ?_
  show own_Go _ _ _ _ (T11.setTop (mkF m 43 #[.val (.ref r0), .val (.ref r1), .val (.int (Int32.ofNat dp)), .val (.int (0 : Int32))] []))
  refine own_retV A12 hx hret hlk (by decide) (by decide) (hb hby d15_43) ?_
  exact ⟨rfl, K20, V15⟩
theorem ef_13 (m : MethodId) (r0 : Addr) (y1 : Int32) (r2 : Addr) : entryFrame m #[(.ref r0), (.int y1), (.ref r2)] 3 = mkF m 0 #[.val (.ref r0), .val (.int y1), .val (.ref r2)] [] := by first | (simp [entryFrame, mkF, argsToLocals, Value.category]; done) | rfl
theorem d13_0 : decode jdk_68_method_73_code 0 = .ok (.aload_n 0, 1) := by decide +kernel
theorem d13_1 : decode jdk_68_method_73_code 1 = .ok (.aload_n 2, 1) := by decide +kernel
theorem d13_2 : decode jdk_68_method_73_code 2 = .ok (.invokevirtual 397, 3) := by decide +kernel
theorem pd__Ljava_lang_String__V : parseMethodDescriptor "(Ljava/lang/String;)V" = some ⟨[(.object "java/lang/String")], none⟩ := by decide +kernel
theorem d13_5 : decode jdk_68_method_73_code 5 = .ok (.aload_n 2, 1) := by decide +kernel
theorem d13_6 : decode jdk_68_method_73_code 6 = .ok (.aload_n 0, 1) := by decide +kernel
theorem d13_7 : decode jdk_68_method_73_code 7 = .ok (.getfield 15, 3) := by decide +kernel
theorem d13_10 : decode jdk_68_method_73_code 10 = .ok (.iload_n 1, 1) := by decide +kernel
theorem d13_11 : decode jdk_68_method_73_code 11 = .ok (.aload_n 0, 1) := by decide +kernel
theorem d13_12 : decode jdk_68_method_73_code 12 = .ok (.getfield 22, 3) := by decide +kernel
theorem d13_15 : decode jdk_68_method_73_code 15 = .ok (.invokevirtual 399, 3) := by decide +kernel
theorem pd___BIB_V : parseMethodDescriptor "([BIB)V" = some ⟨[(.array .byte), .int, .byte], none⟩ := by decide +kernel
theorem d13_18 : decode jdk_68_method_73_code 18 = .ok (.return_, 1) := by decide +kernel
set_option maxRecDepth 65536 in
set_option maxHeartbeats 40000000 in
theorem rm13 (l : Launch) (Z : State) (a0 : Array Value) (hw : ∀ d ∈ tables_1, d.before a0 Z = true) (r0 : Addr) (r2 : Addr) (z_C : Int32) (t0 : Addr) (f : Int32 → Int32) (xs : List Int32) (g : Int32 → Int32) (dp : Nat) (v0 : Addr) (cn : Int32) (h0 : Heap) (n0 : Nat) (S_C0 : Sta Z h0 "java/lang/String" "COMPACT_STRINGS" "Z" (.int z_C)) (hz : ¬ z_C = 0) (Eb : Exa Z h0 r0 "java/lang/StringBuilder") (Fbv : Fld Z h0 r0 "java/lang/AbstractStringBuilder" "value" "[B" (.ref v0)) (Fbc : Fld Z h0 r0 "java/lang/AbstractStringBuilder" "coder" "B" (.int (0 : Int32))) (Fbn : Fld Z h0 r0 "java/lang/AbstractStringBuilder" "count" "I" (.int cn)) (Vb : own_Arr Z h0 v0 .byte (16 : Int32) g) (Es : Exa Z h0 r2 "java/lang/String") (Fcs : Fld Z h0 r2 "java/lang/String" "coder" "B" (.int (0 : Int32))) (Fvs : Fld Z h0 r2 "java/lang/String" "value" "[B" (.ref t0)) (Vs : own_Arr Z h0 t0 .byte (Int32.ofNat xs.length) f) (gv : n0 ≤ v0) (ne_v0_r0 : v0 ≠ r0) (ne_v0_r2 : v0 ≠ r2) (ne_v0_t0 : v0 ≠ t0) (Bs : own_Byt f xs.length) (Bb : own_Byt g 16) (hfit : dp + xs.length ≤ 16) :
    own_Met l Z n0 (⟨"java/lang/AbstractStringBuilder", "putStringAt", "(ILjava/lang/String;)V"⟩ : MethodName) jdk_68_method_73_code 3 none ({ frames := 2, cells := 0, slots := 0, locals := 55 } : Room) #[(.ref r0), (.int (Int32.ofNat dp)), (.ref r2)] h0 (fun v h => v = none ∧ Keep h0 h [v0] ∧ own_Arr Z h v0 .byte (16 : Int32) (own_cpf f 0 dp xs.length g)) := by
  refine own_met (plainFor_of_name pn_12) ?_
  intro p e s m below meth c T0 hx hby hml hown hnm hret hlk hZ A0
  rw [ef_13]
  show own_Go _ _ _ _ (T0.setTop (mkF m 0 #[.val (.ref r0), .val (.int (Int32.ofNat dp)), .val (.ref r2)] []))
  refine own_go (fun t_ k_ => XS.aloadN A0.here hx rfl (hb hby d13_0) rfl rfl k_) ?_
  show own_Go _ _ _ _ (T0.setTop (mkF m 1 #[.val (.ref r0), .val (.int (Int32.ofNat dp)), .val (.ref r2)] [(.ref r0)]))
  refine own_go (fun t_ k_ => XS.aloadN A0.here hx rfl (hb hby d13_1) rfl rfl k_) ?_
  show own_Go _ _ _ _ (T0.setTop (mkF m 2 #[.val (.ref r0), .val (.int (Int32.ofNat dp)), .val (.ref r2)] [(.ref r2), (.ref r0)]))
  refine own_callP A0 hx hZ (y := (⟨"java/lang/AbstractStringBuilder", "inflateIfNeededFor", "(Ljava/lang/String;)V"⟩ : MethodName)) hown (hw _ (List.mem_of_getElem? (i := 90) rfl)) (hw _ (List.mem_of_getElem? (i := 91) rfl)) (hw _ (List.mem_of_getElem? (i := 92) rfl)) (hw _ (List.mem_of_getElem? (i := 83) rfl)) rfl (hw _ (List.mem_of_getElem? (i := 47) rfl)) (hw _ (List.mem_of_getElem? (i := 94) rfl)) (by decide) (b := r0) (argsL := [(.ref r2)]) (rest := []) Eb (rm14 l Z a0 hw r0 r2 z_C h0 n0 S_C0 hz Fbc Es Fcs) 0 (by decide) (by decide) rfl (by rw [hml]; rfl) (lenOf pd__Ljava_lang_String__V rfl) rfl (by show 2 * 0 + _ ≤ _; exact Nat.le_of_eq rfl) (hb hby d13_2) (by decide) (by decide) (fun v4 T1 h3 A2 hQ5 => ?_)
  obtain ⟨rfl, rfl⟩ := hQ5
  show own_Go _ _ _ _ (T1.setTop (mkF m 5 #[.val (.ref r0), .val (.int (Int32.ofNat dp)), .val (.ref r2)] []))
  refine own_go (fun t_ k_ => XS.aloadN A2.here hx rfl (hb hby d13_5) rfl rfl k_) ?_
  show own_Go _ _ _ _ (T1.setTop (mkF m 6 #[.val (.ref r0), .val (.int (Int32.ofNat dp)), .val (.ref r2)] [(.ref r2)]))
  refine own_go (fun t_ k_ => XS.aloadN A2.here hx rfl (hb hby d13_6) rfl rfl k_) ?_
  show own_Go _ _ _ _ (T1.setTop (mkF m 7 #[.val (.ref r0), .val (.int (Int32.ofNat dp)), .val (.ref r2)] [(.ref r0), (.ref r2)]))
  refine own_getF A2 hx hZ hown (host := "") (Or.inl (hw _ (List.mem_of_getElem? (i := 51) rfl))) Via.refl Fbv rfl rfl (hb hby d13_7) (fun T6 A7 => ?_)
  show own_Go _ _ _ _ (T6.setTop (mkF m 10 #[.val (.ref r0), .val (.int (Int32.ofNat dp)), .val (.ref r2)] [(.ref v0), (.ref r2)]))
  refine own_go (fun t_ k_ => XS.iloadN A7.here hx rfl (hb hby d13_10) rfl k_) ?_
  show own_Go _ _ _ _ (T6.setTop (mkF m 11 #[.val (.ref r0), .val (.int (Int32.ofNat dp)), .val (.ref r2)] [(.int (Int32.ofNat dp)), (.ref v0), (.ref r2)]))
  refine own_go (fun t_ k_ => XS.aloadN A7.here hx rfl (hb hby d13_11) rfl rfl k_) ?_
  show own_Go _ _ _ _ (T6.setTop (mkF m 12 #[.val (.ref r0), .val (.int (Int32.ofNat dp)), .val (.ref r2)] [(.ref r0), (.int (Int32.ofNat dp)), (.ref v0), (.ref r2)]))
  refine own_getF A7 hx hZ hown (host := "") (Or.inl (hw _ (List.mem_of_getElem? (i := 53) rfl))) Via.refl Fbc rfl rfl (hb hby d13_12) (fun T8 A9 => ?_)
  show own_Go _ _ _ _ (T8.setTop (mkF m 15 #[.val (.ref r0), .val (.int (Int32.ofNat dp)), .val (.ref r2)] [(.int (0 : Int32)), (.int (Int32.ofNat dp)), (.ref v0), (.ref r2)]))
  refine own_callV A9 hx hZ (y := (⟨"java/lang/String", "getBytes", "([BIB)V"⟩ : MethodName)) (z := (⟨"java/lang/String", "getBytes", "([BIB)V"⟩ : MethodName)) hown (hw _ (List.mem_of_getElem? (i := 96) rfl)) (hw _ (List.mem_of_getElem? (i := 97) rfl)) (hw _ (List.mem_of_getElem? (i := 99) rfl)) (hw _ (List.mem_of_getElem? (i := 98) rfl)) (hw _ (List.mem_of_getElem? (i := 8) rfl)) (hw _ (List.mem_of_getElem? (i := 100) rfl)) (notFace_of_selects (args := #[]) (mvT hZ (hw _ (List.mem_of_getElem? (i := 99) rfl)))) (by decide) (b := r2) (argsL := [(.ref v0), (.int (Int32.ofNat dp)), (.int (0 : Int32))]) (rest := []) Es (rm15 l Z a0 hw r2 v0 z_C t0 f xs g dp h0 n0 S_C0 hz Es Fcs Fvs Vs Vb gv (Ne.symm ne_v0_t0) (Ne.symm ne_v0_r2) Bs Bb hfit) 0 (by decide) (by decide) rfl (by rw [hml]; rfl) (lenOf pd___BIB_V rfl) rfl (by show 2 * 0 + _ ≤ _; exact Nat.le_of_eq rfl) (hb hby d13_15) (by decide) (by decide) (fun v13 T10 h12 A11 hQ14 => ?_)
  obtain ⟨rfl, K15, V16⟩ := hQ14
  have E17 : Exa Z h12 r0 "java/lang/StringBuilder" := Eb.keep K15
  have F18 : Fld Z h12 r0 "java/lang/AbstractStringBuilder" "value" "[B" (.ref v0) := Fbv.keep K15 (ninS (Ne.symm ne_v0_r0) nin0)
  have F19 : Fld Z h12 r0 "java/lang/AbstractStringBuilder" "coder" "B" (.int (0 : Int32)) := Fbc.keep K15 (ninS (Ne.symm ne_v0_r0) nin0)
  have F20 : Fld Z h12 r0 "java/lang/AbstractStringBuilder" "count" "I" (.int cn) := Fbn.keep K15 (ninS (Ne.symm ne_v0_r0) nin0)
  have E21 : Exa Z h12 r2 "java/lang/String" := Es.keep K15
  have F22 : Fld Z h12 r2 "java/lang/String" "coder" "B" (.int (0 : Int32)) := Fcs.keep K15 (ninS (Ne.symm ne_v0_r2) nin0)
  have F23 : Fld Z h12 r2 "java/lang/String" "value" "[B" (.ref t0) := Fvs.keep K15 (ninS (Ne.symm ne_v0_r2) nin0)
  have V24 : own_Arr Z h12 t0 .byte (Int32.ofNat xs.length) f := Vs.keep K15 (ninS (Ne.symm ne_v0_t0) nin0)
  have K25 : Keep h0 h12 [v0] := (Keep.refl h0 [v0]).trans K15 (allS (Or.inl (List.mem_of_getElem? (i := 0) rfl)) all0)
  show own_Go _ _ _ _ (T10.setTop (mkF m 18 #[.val (.ref r0), .val (.int (Int32.ofNat dp)), .val (.ref r2)] []))
  refine own_retV A11 hx hret hlk (by decide) (by decide) (hb hby d13_18) ?_
  exact ⟨rfl, K25, V16⟩
theorem ef_9 (m : MethodId) (r0 : Addr) (r1 : Addr) : entryFrame m #[(.ref r0), (.ref r1)] 3 = mkF m 0 #[.val (.ref r0), .val (.ref r1), .unset] [] := by first | (simp [entryFrame, mkF, argsToLocals, Value.category]; done) | rfl
theorem d9_0 : decode jdk_68_method_22_code 0 = .ok (.aload_n 1, 1) := by decide +kernel
theorem d9_1 : decode jdk_68_method_22_code 1 = .ok (.ifnonnull 8, 3) := by decide +kernel
theorem d9_9 : decode jdk_68_method_22_code 9 = .ok (.aload_n 1, 1) := by decide +kernel
theorem d9_10 : decode jdk_68_method_22_code 10 = .ok (.invokevirtual 32, 3) := by decide +kernel
theorem pd___I : parseMethodDescriptor "()I" = some ⟨[], some .int⟩ := by decide +kernel
theorem d9_13 : decode jdk_68_method_22_code 13 = .ok (.istore_n 2, 1) := by decide +kernel
theorem d9_14 : decode jdk_68_method_22_code 14 = .ok (.aload_n 0, 1) := by decide +kernel
theorem d9_15 : decode jdk_68_method_22_code 15 = .ok (.aload_n 0, 1) := by decide +kernel
theorem d9_16 : decode jdk_68_method_22_code 16 = .ok (.getfield 79, 3) := by decide +kernel
theorem d9_19 : decode jdk_68_method_22_code 19 = .ok (.iload_n 2, 1) := by decide +kernel
theorem d9_20 : decode jdk_68_method_22_code 20 = .ok (.iadd, 1) := by decide +kernel
theorem d9_21 : decode jdk_68_method_22_code 21 = .ok (.invokevirtual 100, 3) := by decide +kernel
theorem pd__I_V : parseMethodDescriptor "(I)V" = some ⟨[.int], none⟩ := by decide +kernel
theorem d9_24 : decode jdk_68_method_22_code 24 = .ok (.aload_n 0, 1) := by decide +kernel
theorem d9_25 : decode jdk_68_method_22_code 25 = .ok (.aload_n 0, 1) := by decide +kernel
theorem d9_26 : decode jdk_68_method_22_code 26 = .ok (.getfield 79, 3) := by decide +kernel
theorem d9_29 : decode jdk_68_method_22_code 29 = .ok (.aload_n 1, 1) := by decide +kernel
theorem d9_30 : decode jdk_68_method_22_code 30 = .ok (.invokevirtual 208, 3) := by decide +kernel
theorem pd__ILjava_lang_String__V : parseMethodDescriptor "(ILjava/lang/String;)V" = some ⟨[.int, (.object "java/lang/String")], none⟩ := by decide +kernel
theorem d9_33 : decode jdk_68_method_22_code 33 = .ok (.aload_n 0, 1) := by decide +kernel
theorem d9_34 : decode jdk_68_method_22_code 34 = .ok (.dup, 1) := by decide +kernel
theorem d9_35 : decode jdk_68_method_22_code 35 = .ok (.getfield 79, 3) := by decide +kernel
theorem d9_38 : decode jdk_68_method_22_code 38 = .ok (.iload_n 2, 1) := by decide +kernel
theorem d9_39 : decode jdk_68_method_22_code 39 = .ok (.iadd, 1) := by decide +kernel
theorem d9_40 : decode jdk_68_method_22_code 40 = .ok (.putfield 79, 3) := by decide +kernel
theorem d9_43 : decode jdk_68_method_22_code 43 = .ok (.aload_n 0, 1) := by decide +kernel
theorem d9_44 : decode jdk_68_method_22_code 44 = .ok (.areturn, 1) := by decide +kernel
set_option maxRecDepth 65536 in
set_option maxHeartbeats 40000000 in
theorem rm9 (l : Launch) (Z : State) (a0 : Array Value) (hw : ∀ d ∈ tables_1, d.before a0 Z = true) (r0 : Addr) (r1 : Addr) (z_C : Int32) (t0 : Addr) (f : Int32 → Int32) (xs : List Int32) (g : Int32 → Int32) (dp : Nat) (v0 : Addr) (h0 : Heap) (n0 : Nat) (S_C0 : Sta Z h0 "java/lang/String" "COMPACT_STRINGS" "Z" (.int z_C)) (hz : ¬ z_C = 0) (Eb : Exa Z h0 r0 "java/lang/StringBuilder") (Fbv : Fld Z h0 r0 "java/lang/AbstractStringBuilder" "value" "[B" (.ref v0)) (Fbc : Fld Z h0 r0 "java/lang/AbstractStringBuilder" "coder" "B" (.int (0 : Int32))) (Fbn : Fld Z h0 r0 "java/lang/AbstractStringBuilder" "count" "I" (.int (Int32.ofNat dp))) (Vb : own_Arr Z h0 v0 .byte (16 : Int32) g) (Es : Exa Z h0 r1 "java/lang/String") (Fcs : Fld Z h0 r1 "java/lang/String" "coder" "B" (.int (0 : Int32))) (Fvs : Fld Z h0 r1 "java/lang/String" "value" "[B" (.ref t0)) (Vs : own_Arr Z h0 t0 .byte (Int32.ofNat xs.length) f) (gv : n0 ≤ v0) (g0 : n0 ≤ r0) (ne_v0_r0 : v0 ≠ r0) (ne_v0_r1 : v0 ≠ r1) (ne_v0_t0 : v0 ≠ t0) (ne_r0_r1 : r0 ≠ r1) (ne_r0_t0 : r0 ≠ t0) (Bs : own_Byt f xs.length) (Bb : own_Byt g 16) (hfit : dp + xs.length ≤ 16) :
    own_Met l Z n0 (⟨"java/lang/AbstractStringBuilder", "append", "(Ljava/lang/String;)Ljava/lang/AbstractStringBuilder;"⟩ : MethodName) jdk_68_method_22_code 3 (some (.object "java/lang/AbstractStringBuilder")) ({ frames := 3, cells := 0, slots := 0, locals := 69 } : Room) #[(.ref r0), (.ref r1)] h0 (fun v h => v = some (.ref r0) ∧ Keep h0 h [r0, v0] ∧ Fld Z h r0 "java/lang/AbstractStringBuilder" "value" "[B" (.ref v0) ∧ Fld Z h r0 "java/lang/AbstractStringBuilder" "coder" "B" (.int (0 : Int32)) ∧ Fld Z h r0 "java/lang/AbstractStringBuilder" "count" "I" (.int (Int32.ofNat (dp + xs.length))) ∧ own_Arr Z h v0 .byte (16 : Int32) (own_cpf f 0 dp xs.length g)) := by
  refine own_met (plainFor_of_name pn_12) ?_
  intro p e s m below meth c T0 hx hby hml hown hnm hret hlk hZ A0
  rw [ef_9]
  show own_Go _ _ _ _ (T0.setTop (mkF m 0 #[.val (.ref r0), .val (.ref r1), .unset] []))
  refine own_go (fun t_ k_ => XS.aloadN A0.here hx rfl (hb hby d9_0) rfl rfl k_) ?_
  show own_Go _ _ _ _ (T0.setTop (mkF m 1 #[.val (.ref r0), .val (.ref r1), .unset] [(.ref r1)]))
  refine own_go (fun t_ k_ => XS.ifnonnullYes A0.here hx rfl (pc0 := 1) (pc' := 9) rfl (hb hby d9_1) rfl (by decide) (by decide) k_) ?_
  show own_Go _ _ _ _ (T0.setTop (mkF m 9 #[.val (.ref r0), .val (.ref r1), .unset] []))
  refine own_go (fun t_ k_ => XS.aloadN A0.here hx rfl (hb hby d9_9) rfl rfl k_) ?_
  show own_Go _ _ _ _ (T0.setTop (mkF m 10 #[.val (.ref r0), .val (.ref r1), .unset] [(.ref r1)]))
  refine own_callV A0 hx hZ (y := (⟨"java/lang/String", "length", "()I"⟩ : MethodName)) (z := (⟨"java/lang/String", "length", "()I"⟩ : MethodName)) hown (hw _ (List.mem_of_getElem? (i := 65) rfl)) (hw _ (List.mem_of_getElem? (i := 66) rfl)) (hw _ (List.mem_of_getElem? (i := 68) rfl)) (hw _ (List.mem_of_getElem? (i := 67) rfl)) (hw _ (List.mem_of_getElem? (i := 8) rfl)) (hw _ (List.mem_of_getElem? (i := 69) rfl)) (notFace_of_selects (args := #[]) (mvT hZ (hw _ (List.mem_of_getElem? (i := 68) rfl)))) (by decide) (b := r1) (argsL := []) (rest := []) Es (rm10 l Z a0 hw r1 z_C t0 f xs h0 n0 S_C0 hz Es Fcs Fvs Vs) 0 (by decide) (by decide) rfl (by rw [hml]; rfl) (lenOf pd___I rfl) rfl (by show 2 * 0 + _ ≤ _; exact Nat.le_of_eq rfl) (hb hby d9_10) (by decide) (by decide) (fun v4 T1 h3 A2 hQ5 => ?_)
  obtain ⟨rfl, rfl⟩ := hQ5
  show own_Go _ _ _ _ (T1.setTop (mkF m 13 #[.val (.ref r0), .val (.ref r1), .unset] [(.int (Int32.ofNat xs.length))]))
  refine own_go (fun t_ k_ => XS.istoreN A2.here hx rfl (hb hby d9_13) rfl (l' := #[.val (.ref r0), .val (.ref r1), .val (.int (Int32.ofNat xs.length))]) rfl k_) ?_
  show own_Go _ _ _ _ (T1.setTop (mkF m 14 #[.val (.ref r0), .val (.ref r1), .val (.int (Int32.ofNat xs.length))] []))
  refine own_go (fun t_ k_ => XS.aloadN A2.here hx rfl (hb hby d9_14) rfl rfl k_) ?_
  show own_Go _ _ _ _ (T1.setTop (mkF m 15 #[.val (.ref r0), .val (.ref r1), .val (.int (Int32.ofNat xs.length))] [(.ref r0)]))
  refine own_go (fun t_ k_ => XS.aloadN A2.here hx rfl (hb hby d9_15) rfl rfl k_) ?_
  show own_Go _ _ _ _ (T1.setTop (mkF m 16 #[.val (.ref r0), .val (.ref r1), .val (.int (Int32.ofNat xs.length))] [(.ref r0), (.ref r0)]))
  refine own_getF A2 hx hZ hown (host := "") (Or.inl (hw _ (List.mem_of_getElem? (i := 78) rfl))) Via.refl Fbn rfl rfl (hb hby d9_16) (fun T6 A7 => ?_)
  show own_Go _ _ _ _ (T6.setTop (mkF m 19 #[.val (.ref r0), .val (.ref r1), .val (.int (Int32.ofNat xs.length))] [(.int (Int32.ofNat dp)), (.ref r0)]))
  refine own_go (fun t_ k_ => XS.iloadN A7.here hx rfl (hb hby d9_19) rfl k_) ?_
  show own_Go _ _ _ _ (T6.setTop (mkF m 20 #[.val (.ref r0), .val (.ref r1), .val (.int (Int32.ofNat xs.length))] [(.int (Int32.ofNat xs.length)), (.int (Int32.ofNat dp)), (.ref r0)]))
  refine own_go (fun t_ k_ => XS.iadd A7.here hx rfl (hb hby d9_20) rfl k_) ?_
  show own_Go _ _ _ _ (T6.setTop (mkF m 21 #[.val (.ref r0), .val (.ref r1), .val (.int (Int32.ofNat xs.length))] [(.int ((Int32.ofNat dp) + (Int32.ofNat xs.length))), (.ref r0)]))
  rw [own_nadd]
  show own_Go _ _ _ _ (T6.setTop (mkF m 21 #[.val (.ref r0), .val (.ref r1), .val (.int (Int32.ofNat xs.length))] [(.int (Int32.ofNat (dp + xs.length))), (.ref r0)]))
  refine own_callP A7 hx hZ (y := (⟨"java/lang/AbstractStringBuilder", "ensureCapacityInternal", "(I)V"⟩ : MethodName)) hown (hw _ (List.mem_of_getElem? (i := 80) rfl)) (hw _ (List.mem_of_getElem? (i := 81) rfl)) (hw _ (List.mem_of_getElem? (i := 82) rfl)) (hw _ (List.mem_of_getElem? (i := 83) rfl)) rfl (hw _ (List.mem_of_getElem? (i := 47) rfl)) (hw _ (List.mem_of_getElem? (i := 84) rfl)) (by decide) (b := r0) (argsL := [(.int (Int32.ofNat (dp + xs.length)))]) (rest := []) Eb (rm12 l Z a0 hw r0 (Int32.ofNat (dp + xs.length)) v0 g (Int32.ofNat dp) h0 n0 Eb Fbv Fbc Fbn Vb (own_cap16 dp xs.length hfit)) 0 (by decide) (by decide) rfl (by rw [hml]; rfl) (lenOf pd__I_V rfl) rfl (by show 2 * 0 + _ ≤ _; exact Nat.le_of_eq rfl) (hb hby d9_21) (by decide) (by decide) (fun v11 T8 h10 A9 hQ12 => ?_)
  obtain ⟨rfl, rfl⟩ := hQ12
  show own_Go _ _ _ _ (T8.setTop (mkF m 24 #[.val (.ref r0), .val (.ref r1), .val (.int (Int32.ofNat xs.length))] []))
  refine own_go (fun t_ k_ => XS.aloadN A9.here hx rfl (hb hby d9_24) rfl rfl k_) ?_
  show own_Go _ _ _ _ (T8.setTop (mkF m 25 #[.val (.ref r0), .val (.ref r1), .val (.int (Int32.ofNat xs.length))] [(.ref r0)]))
  refine own_go (fun t_ k_ => XS.aloadN A9.here hx rfl (hb hby d9_25) rfl rfl k_) ?_
  show own_Go _ _ _ _ (T8.setTop (mkF m 26 #[.val (.ref r0), .val (.ref r1), .val (.int (Int32.ofNat xs.length))] [(.ref r0), (.ref r0)]))
  refine own_getF A9 hx hZ hown (host := "") (Or.inl (hw _ (List.mem_of_getElem? (i := 78) rfl))) Via.refl Fbn rfl rfl (hb hby d9_26) (fun T13 A14 => ?_)
  show own_Go _ _ _ _ (T13.setTop (mkF m 29 #[.val (.ref r0), .val (.ref r1), .val (.int (Int32.ofNat xs.length))] [(.int (Int32.ofNat dp)), (.ref r0)]))
  refine own_go (fun t_ k_ => XS.aloadN A14.here hx rfl (hb hby d9_29) rfl rfl k_) ?_
  show own_Go _ _ _ _ (T13.setTop (mkF m 30 #[.val (.ref r0), .val (.ref r1), .val (.int (Int32.ofNat xs.length))] [(.ref r1), (.int (Int32.ofNat dp)), (.ref r0)]))
  refine own_callP A14 hx hZ (y := (⟨"java/lang/AbstractStringBuilder", "putStringAt", "(ILjava/lang/String;)V"⟩ : MethodName)) hown (hw _ (List.mem_of_getElem? (i := 85) rfl)) (hw _ (List.mem_of_getElem? (i := 86) rfl)) (hw _ (List.mem_of_getElem? (i := 87) rfl)) (hw _ (List.mem_of_getElem? (i := 83) rfl)) rfl (hw _ (List.mem_of_getElem? (i := 47) rfl)) (hw _ (List.mem_of_getElem? (i := 89) rfl)) (by decide) (b := r0) (argsL := [(.int (Int32.ofNat dp)), (.ref r1)]) (rest := []) Eb (rm13 l Z a0 hw r0 r1 z_C t0 f xs g dp v0 (Int32.ofNat dp) h0 n0 S_C0 hz Eb Fbv Fbc Fbn Vb Es Fcs Fvs Vs gv ne_v0_r0 ne_v0_r1 ne_v0_t0 Bs Bb hfit) 0 (by decide) (by decide) rfl (by rw [hml]; rfl) (lenOf pd__ILjava_lang_String__V rfl) rfl (by show 2 * 0 + _ ≤ _; exact Nat.le_of_eq rfl) (hb hby d9_30) (by decide) (by decide) (fun v18 T15 h17 A16 hQ19 => ?_)
  obtain ⟨rfl, K20, V21⟩ := hQ19
  have E22 : Exa Z h17 r0 "java/lang/StringBuilder" := Eb.keep K20
  have F23 : Fld Z h17 r0 "java/lang/AbstractStringBuilder" "value" "[B" (.ref v0) := Fbv.keep K20 (ninS (Ne.symm ne_v0_r0) nin0)
  have F24 : Fld Z h17 r0 "java/lang/AbstractStringBuilder" "coder" "B" (.int (0 : Int32)) := Fbc.keep K20 (ninS (Ne.symm ne_v0_r0) nin0)
  have F25 : Fld Z h17 r0 "java/lang/AbstractStringBuilder" "count" "I" (.int (Int32.ofNat dp)) := Fbn.keep K20 (ninS (Ne.symm ne_v0_r0) nin0)
  have E26 : Exa Z h17 r1 "java/lang/String" := Es.keep K20
  have F27 : Fld Z h17 r1 "java/lang/String" "coder" "B" (.int (0 : Int32)) := Fcs.keep K20 (ninS (Ne.symm ne_v0_r1) nin0)
  have F28 : Fld Z h17 r1 "java/lang/String" "value" "[B" (.ref t0) := Fvs.keep K20 (ninS (Ne.symm ne_v0_r1) nin0)
  have V29 : own_Arr Z h17 t0 .byte (Int32.ofNat xs.length) f := Vs.keep K20 (ninS (Ne.symm ne_v0_t0) nin0)
  have K30 : Keep h0 h17 [r0, v0] := (Keep.refl h0 [r0, v0]).trans K20 (allS (Or.inl (List.mem_of_getElem? (i := 1) rfl)) all0)
  show own_Go _ _ _ _ (T15.setTop (mkF m 33 #[.val (.ref r0), .val (.ref r1), .val (.int (Int32.ofNat xs.length))] []))
  refine own_go (fun t_ k_ => XS.aloadN A16.here hx rfl (hb hby d9_33) rfl rfl k_) ?_
  show own_Go _ _ _ _ (T15.setTop (mkF m 34 #[.val (.ref r0), .val (.ref r1), .val (.int (Int32.ofNat xs.length))] [(.ref r0)]))
  refine own_go (fun t_ k_ => XS.dup A16.here hx rfl (hb hby d9_34) rfl rfl k_) ?_
  show own_Go _ _ _ _ (T15.setTop (mkF m 35 #[.val (.ref r0), .val (.ref r1), .val (.int (Int32.ofNat xs.length))] [(.ref r0), (.ref r0)]))
  refine own_getF A16 hx hZ hown (host := "") (Or.inl (hw _ (List.mem_of_getElem? (i := 78) rfl))) Via.refl F25 rfl rfl (hb hby d9_35) (fun T31 A32 => ?_)
  show own_Go _ _ _ _ (T31.setTop (mkF m 38 #[.val (.ref r0), .val (.ref r1), .val (.int (Int32.ofNat xs.length))] [(.int (Int32.ofNat dp)), (.ref r0)]))
  refine own_go (fun t_ k_ => XS.iloadN A32.here hx rfl (hb hby d9_38) rfl k_) ?_
  show own_Go _ _ _ _ (T31.setTop (mkF m 39 #[.val (.ref r0), .val (.ref r1), .val (.int (Int32.ofNat xs.length))] [(.int (Int32.ofNat xs.length)), (.int (Int32.ofNat dp)), (.ref r0)]))
  refine own_go (fun t_ k_ => XS.iadd A32.here hx rfl (hb hby d9_39) rfl k_) ?_
  show own_Go _ _ _ _ (T31.setTop (mkF m 40 #[.val (.ref r0), .val (.ref r1), .val (.int (Int32.ofNat xs.length))] [(.int ((Int32.ofNat dp) + (Int32.ofNat xs.length))), (.ref r0)]))
  rw [own_nadd]
  show own_Go _ _ _ _ (T31.setTop (mkF m 40 #[.val (.ref r0), .val (.ref r1), .val (.int (Int32.ofNat xs.length))] [(.int (Int32.ofNat (dp + xs.length))), (.ref r0)]))
  refine own_putF A32 hx hZ hown (host := "") (Or.inl (hw _ (List.mem_of_getElem? (i := 78) rfl))) Via.refl F25 E22 (Or.inl (hw _ (List.mem_of_getElem? (i := 79) rfl))) (hw _ (List.mem_of_getElem? (i := 38) rfl)) (ty := .int) (by decide) rfl rfl g0 rfl rfl (hb hby d9_40) (fun T33 h35 A34 W36 => ?_)
  have E37 : Exa Z h35 r0 "java/lang/StringBuilder" := E22.wr W36
  have F38 : Fld Z h35 r0 "java/lang/AbstractStringBuilder" "value" "[B" (.ref v0) := F23.other W36 (Or.inr (slot_ne (Or.inl (hw _ (List.mem_of_getElem? (i := 52) rfl))) (Or.inl (hw _ (List.mem_of_getElem? (i := 79) rfl))) (by decide) (t := (.array .byte)) (t' := .int) (by decide) (by decide)))
  have F39 : Fld Z h35 r0 "java/lang/AbstractStringBuilder" "coder" "B" (.int (0 : Int32)) := F24.other W36 (Or.inr (slot_ne (Or.inl (hw _ (List.mem_of_getElem? (i := 54) rfl))) (Or.inl (hw _ (List.mem_of_getElem? (i := 79) rfl))) (by decide) (t := .byte) (t' := .int) (by decide) (by decide)))
  have F40 : Fld Z h35 r0 "java/lang/AbstractStringBuilder" "count" "I" (.int (Int32.ofNat (dp + xs.length))) := F25.same W36
  have E41 : Exa Z h35 r1 "java/lang/String" := E26.wr W36
  have F42 : Fld Z h35 r1 "java/lang/String" "coder" "B" (.int (0 : Int32)) := F27.other W36 (Or.inl (Ne.symm ne_r0_r1))
  have F43 : Fld Z h35 r1 "java/lang/String" "value" "[B" (.ref t0) := F28.other W36 (Or.inl (Ne.symm ne_r0_r1))
  have V44 : own_Arr Z h35 t0 .byte (Int32.ofNat xs.length) f := V29.other W36 (Ne.symm ne_r0_t0)
  have K45 : Keep h0 h35 [r0, v0] := K30.wr W36 (Or.inl (List.mem_of_getElem? (i := 0) rfl))
  have V46 : own_Arr Z h35 v0 .byte (16 : Int32) (own_cpf f 0 dp xs.length g) := V21.other W36 ne_v0_r0
  show own_Go _ _ _ _ (T33.setTop (mkF m 43 #[.val (.ref r0), .val (.ref r1), .val (.int (Int32.ofNat xs.length))] []))
  refine own_go (fun t_ k_ => XS.aloadN A34.here hx rfl (hb hby d9_43) rfl rfl k_) ?_
  show own_Go _ _ _ _ (T33.setTop (mkF m 44 #[.val (.ref r0), .val (.ref r1), .val (.int (Int32.ofNat xs.length))] [(.ref r0)]))
  refine own_retA A34 hx hret rfl hlk (by decide) (by decide) rfl (hb hby d9_44) ?_
  exact ⟨rfl, K45, F38, F39, F40, V46⟩
theorem ef_8 (m : MethodId) (r0 : Addr) (r1 : Addr) : entryFrame m #[(.ref r0), (.ref r1)] 2 = mkF m 0 #[.val (.ref r0), .val (.ref r1)] [] := by first | (simp [entryFrame, mkF, argsToLocals, Value.category]; done) | rfl
theorem pn_8 : plainName "java/lang/StringBuilder" = true := by first | (simp [plainName, overriddenIn]; done) | decide +kernel
theorem d8_0 : decode jdk_67_method_7_code 0 = .ok (.aload_n 0, 1) := by decide +kernel
theorem d8_1 : decode jdk_67_method_7_code 1 = .ok (.aload_n 1, 1) := by decide +kernel
theorem d8_2 : decode jdk_67_method_7_code 2 = .ok (.invokespecial 29, 3) := by decide +kernel
theorem pd__Ljava_lang_String__Ljava_lang_AbstractStringBuilder_ : parseMethodDescriptor "(Ljava/lang/String;)Ljava/lang/AbstractStringBuilder;" = some ⟨[(.object "java/lang/String")], some (.object "java/lang/AbstractStringBuilder")⟩ := by decide +kernel
theorem d8_5 : decode jdk_67_method_7_code 5 = .ok (.pop, 1) := by decide +kernel
theorem d8_6 : decode jdk_67_method_7_code 6 = .ok (.aload_n 0, 1) := by decide +kernel
theorem d8_7 : decode jdk_67_method_7_code 7 = .ok (.areturn, 1) := by decide +kernel
set_option maxRecDepth 65536 in
set_option maxHeartbeats 40000000 in
theorem rm8 (l : Launch) (Z : State) (a0 : Array Value) (hw : ∀ d ∈ tables_1, d.before a0 Z = true) (r0 : Addr) (r1 : Addr) (z_C : Int32) (t0 : Addr) (f : Int32 → Int32) (xs : List Int32) (g : Int32 → Int32) (dp : Nat) (v0 : Addr) (h0 : Heap) (n0 : Nat) (S_C0 : Sta Z h0 "java/lang/String" "COMPACT_STRINGS" "Z" (.int z_C)) (hz : ¬ z_C = 0) (Eb : Exa Z h0 r0 "java/lang/StringBuilder") (Fbv : Fld Z h0 r0 "java/lang/AbstractStringBuilder" "value" "[B" (.ref v0)) (Fbc : Fld Z h0 r0 "java/lang/AbstractStringBuilder" "coder" "B" (.int (0 : Int32))) (Fbn : Fld Z h0 r0 "java/lang/AbstractStringBuilder" "count" "I" (.int (Int32.ofNat dp))) (Vb : own_Arr Z h0 v0 .byte (16 : Int32) g) (Es : Exa Z h0 r1 "java/lang/String") (Fcs : Fld Z h0 r1 "java/lang/String" "coder" "B" (.int (0 : Int32))) (Fvs : Fld Z h0 r1 "java/lang/String" "value" "[B" (.ref t0)) (Vs : own_Arr Z h0 t0 .byte (Int32.ofNat xs.length) f) (gv : n0 ≤ v0) (g0 : n0 ≤ r0) (ne_v0_r0 : v0 ≠ r0) (ne_v0_r1 : v0 ≠ r1) (ne_v0_t0 : v0 ≠ t0) (ne_r0_r1 : r0 ≠ r1) (ne_r0_t0 : r0 ≠ t0) (Bs : own_Byt f xs.length) (Bb : own_Byt g 16) (hfit : dp + xs.length ≤ 16) :
    own_Met l Z n0 (⟨"java/lang/StringBuilder", "append", "(Ljava/lang/String;)Ljava/lang/StringBuilder;"⟩ : MethodName) jdk_67_method_7_code 2 (some (.object "java/lang/StringBuilder")) ({ frames := 4, cells := 0, slots := 0, locals := 83 } : Room) #[(.ref r0), (.ref r1)] h0 (fun v h => v = some (.ref r0) ∧ Keep h0 h [r0, v0] ∧ Fld Z h r0 "java/lang/AbstractStringBuilder" "value" "[B" (.ref v0) ∧ Fld Z h r0 "java/lang/AbstractStringBuilder" "coder" "B" (.int (0 : Int32)) ∧ Fld Z h r0 "java/lang/AbstractStringBuilder" "count" "I" (.int (Int32.ofNat (dp + xs.length))) ∧ own_Arr Z h v0 .byte (16 : Int32) (own_cpf f 0 dp xs.length g)) := by
  refine own_met (plainFor_of_name pn_8) ?_
  intro p e s m below meth c T0 hx hby hml hown hnm hret hlk hZ A0
  rw [ef_8]
  show own_Go _ _ _ _ (T0.setTop (mkF m 0 #[.val (.ref r0), .val (.ref r1)] []))
  refine own_go (fun t_ k_ => XS.aloadN A0.here hx rfl (hb hby d8_0) rfl rfl k_) ?_
  show own_Go _ _ _ _ (T0.setTop (mkF m 1 #[.val (.ref r0), .val (.ref r1)] [(.ref r0)]))
  refine own_go (fun t_ k_ => XS.aloadN A0.here hx rfl (hb hby d8_1) rfl rfl k_) ?_
  show own_Go _ _ _ _ (T0.setTop (mkF m 2 #[.val (.ref r0), .val (.ref r1)] [(.ref r1), (.ref r0)]))
  refine own_callU A0 hx hZ (y := (⟨"java/lang/AbstractStringBuilder", "append", "(Ljava/lang/String;)Ljava/lang/AbstractStringBuilder;"⟩ : MethodName)) hown (hw _ (List.mem_of_getElem? (i := 60) rfl)) (hw _ (List.mem_of_getElem? (i := 61) rfl)) (hw _ (List.mem_of_getElem? (i := 83) rfl)) rfl (hw _ (List.mem_of_getElem? (i := 62) rfl)) (by decide) (hw _ (List.mem_of_getElem? (i := 47) rfl)) (hw _ (List.mem_of_getElem? (i := 64) rfl)) (by decide) (b := r0) (argsL := [(.ref r1)]) (rest := []) (Ins.of_exa Eb (hw _ (List.mem_of_getElem? (i := 46) rfl))) (rm9 l Z a0 hw r0 r1 z_C t0 f xs g dp v0 h0 n0 S_C0 hz Eb Fbv Fbc Fbn Vb Es Fcs Fvs Vs gv g0 ne_v0_r0 ne_v0_r1 ne_v0_t0 ne_r0_r1 ne_r0_t0 Bs Bb hfit) 0 (by decide) (by decide) rfl (by rw [hml]; rfl) (lenOf pd__Ljava_lang_String__Ljava_lang_AbstractStringBuilder_ rfl) rfl (by show 2 * 0 + _ ≤ _; exact Nat.le_of_eq rfl) (hb hby d8_2) (by decide) (by decide) (fun v4 T1 h3 A2 hQ5 => ?_)
  obtain ⟨rfl, K6, F7, F8, F9, V10⟩ := hQ5
  have E11 : Exa Z h3 r0 "java/lang/StringBuilder" := Eb.keep K6
  have E12 : Exa Z h3 r1 "java/lang/String" := Es.keep K6
  have F13 : Fld Z h3 r1 "java/lang/String" "coder" "B" (.int (0 : Int32)) := Fcs.keep K6 (ninS (Ne.symm ne_r0_r1) (ninS (Ne.symm ne_v0_r1) nin0))
  have F14 : Fld Z h3 r1 "java/lang/String" "value" "[B" (.ref t0) := Fvs.keep K6 (ninS (Ne.symm ne_r0_r1) (ninS (Ne.symm ne_v0_r1) nin0))
  have V15 : own_Arr Z h3 t0 .byte (Int32.ofNat xs.length) f := Vs.keep K6 (ninS (Ne.symm ne_r0_t0) (ninS (Ne.symm ne_v0_t0) nin0))
  have K16 : Keep h0 h3 [r0, v0] := (Keep.refl h0 [r0, v0]).trans K6 (allS (Or.inl (List.mem_of_getElem? (i := 0) rfl)) (allS (Or.inl (List.mem_of_getElem? (i := 1) rfl)) all0))
  show own_Go _ _ _ _ (T1.setTop (mkF m 5 #[.val (.ref r0), .val (.ref r1)] [(.ref r0)]))
  refine own_go (fun t_ k_ => XS.pop A2.here hx rfl (hb hby d8_5) rfl rfl k_) ?_
  show own_Go _ _ _ _ (T1.setTop (mkF m 6 #[.val (.ref r0), .val (.ref r1)] []))
  refine own_go (fun t_ k_ => XS.aloadN A2.here hx rfl (hb hby d8_6) rfl rfl k_) ?_
  show own_Go _ _ _ _ (T1.setTop (mkF m 7 #[.val (.ref r0), .val (.ref r1)] [(.ref r0)]))
  refine own_retA A2 hx hret rfl hlk (by decide) (by decide) rfl (hb hby d8_7) ?_
  exact ⟨rfl, K16, F7, F8, F9, V10⟩
theorem ef_7 (m : MethodId) (r0 : Addr) (y1 : Int32) : entryFrame m #[(.ref r0), (.int y1)] 2 = mkF m 0 #[.val (.ref r0), .val (.int y1)] [] := by first | (simp [entryFrame, mkF, argsToLocals, Value.category]; done) | rfl
theorem d7_0 : decode jdk_68_method_2_code 0 = .ok (.aload_n 0, 1) := by decide +kernel
theorem d7_1 : decode jdk_68_method_2_code 1 = .ok (.invokespecial 3, 3) := by decide +kernel
theorem d7_4 : decode jdk_68_method_2_code 4 = .ok (.getstatic 18, 3) := by decide +kernel
theorem d7_7 : decode jdk_68_method_2_code 7 = .ok (.ifCond .eq 18, 3) := by decide +kernel
theorem d7_10 : decode jdk_68_method_2_code 10 = .ok (.aload_n 0, 1) := by decide +kernel
theorem d7_11 : decode jdk_68_method_2_code 11 = .ok (.iload_n 1, 1) := by decide +kernel
theorem d7_12 : decode jdk_68_method_2_code 12 = .ok (.newarray .byte, 2) := by decide +kernel
theorem d7_14 : decode jdk_68_method_2_code 14 = .ok (.putfield 15, 3) := by decide +kernel
theorem d7_17 : decode jdk_68_method_2_code 17 = .ok (.aload_n 0, 1) := by decide +kernel
theorem d7_18 : decode jdk_68_method_2_code 18 = .ok (.iconst 0, 1) := by decide +kernel
theorem d7_19 : decode jdk_68_method_2_code 19 = .ok (.putfield 22, 3) := by decide +kernel
theorem d7_22 : decode jdk_68_method_2_code 22 = .ok (.goto 16, 3) := by decide +kernel
theorem d7_38 : decode jdk_68_method_2_code 38 = .ok (.return_, 1) := by decide +kernel
set_option maxRecDepth 65536 in
set_option maxHeartbeats 40000000 in
theorem rm7 (l : Launch) (Z : State) (a0 : Array Value) (hw : ∀ d ∈ tables_1, d.before a0 Z = true) (r0 : Addr) (z_C : Int32) (h0 : Heap) (n0 : Nat) (S_C0 : Sta Z h0 "java/lang/String" "COMPACT_STRINGS" "Z" (.int z_C)) (hz : ¬ z_C = 0) (Z0 : n0 ≤ h0.size) (Eb : Exa Z h0 r0 "java/lang/StringBuilder") (F0v : Fld Z h0 r0 "java/lang/AbstractStringBuilder" "value" "[B" .null) (F0c : Fld Z h0 r0 "java/lang/AbstractStringBuilder" "coder" "B" (.int (0 : Int32))) (F0n : Fld Z h0 r0 "java/lang/AbstractStringBuilder" "count" "I" (.int (0 : Int32))) (g0 : n0 ≤ r0) :
    own_Met l Z n0 (⟨"java/lang/AbstractStringBuilder", "<init>", "(I)V"⟩ : MethodName) jdk_68_method_2_code 2 none ({ frames := 1, cells := 1, slots := 16, locals := 12 } : Room) #[(.ref r0), (.int (16 : Int32))] h0 (fun v h => v = none ∧ Keep h0 h [r0] ∧ ∃ v0, n0 ≤ v0 ∧ h0.size ≤ v0 ∧ Fld Z h r0 "java/lang/AbstractStringBuilder" "value" "[B" (.ref v0) ∧ Fld Z h r0 "java/lang/AbstractStringBuilder" "coder" "B" (.int (0 : Int32)) ∧ Fld Z h r0 "java/lang/AbstractStringBuilder" "count" "I" (.int (0 : Int32)) ∧ own_Arr Z h v0 .byte (16 : Int32) (fun _ => 0)) := by
  refine own_met (plainFor_of_name pn_12) ?_
  intro p e s m below meth c T0 hx hby hml hown hnm hret hlk hZ A0
  rw [ef_7]
  show own_Go _ _ _ _ (T0.setTop (mkF m 0 #[.val (.ref r0), .val (.int (16 : Int32))] []))
  refine own_go (fun t_ k_ => XS.aloadN A0.here hx rfl (hb hby d7_0) rfl rfl k_) ?_
  show own_Go _ _ _ _ (T0.setTop (mkF m 1 #[.val (.ref r0), .val (.int (16 : Int32))] [(.ref r0)]))
  refine own_initO A0 hx hZ hown (hw _ (List.mem_of_getElem? (i := 49) rfl)) (hw _ (List.mem_of_getElem? (i := 24) rfl)) (hw _ (List.mem_of_getElem? (i := 25) rfl)) rfl (by rw [hml]; rfl) rfl (hb hby d7_1) (by decide) 0 (by show 2 * 0 + _ ≤ _; exact Nat.le_of_eq rfl) (by decide) (fun T1 A2 => ?_)
  show own_Go _ _ _ _ (T1.setTop (mkF m 4 #[.val (.ref r0), .val (.int (16 : Int32))] []))
  refine own_getS A2 hx hZ hown (host := "") (Or.inl (hw _ (List.mem_of_getElem? (i := 50) rfl))) Via.refl S_C0 rfl (hb hby d7_4) (fun T3 A4 => ?_)
  show own_Go _ _ _ _ (T3.setTop (mkF m 7 #[.val (.ref r0), .val (.int (16 : Int32))] [(.int z_C)]))
  have hc5 : ¬ (z_C = (0 : Int32)) := hz
  refine own_go (fun t_ k_ => XS.ifNo A4.here hx rfl (hb hby d7_7) rfl ((if0 _ _).trans (feq hc5).1) k_) ?_
  show own_Go _ _ _ _ (T3.setTop (mkF m 10 #[.val (.ref r0), .val (.int (16 : Int32))] []))
  refine own_go (fun t_ k_ => XS.aloadN A4.here hx rfl (hb hby d7_10) rfl rfl k_) ?_
  show own_Go _ _ _ _ (T3.setTop (mkF m 11 #[.val (.ref r0), .val (.int (16 : Int32))] [(.ref r0)]))
  refine own_go (fun t_ k_ => XS.iloadN A4.here hx rfl (hb hby d7_11) rfl k_) ?_
  show own_Go _ _ _ _ (T3.setTop (mkF m 12 #[.val (.ref r0), .val (.int (16 : Int32))] [(.int (16 : Int32)), (.ref r0)]))
  refine own_newP A4 hx hZ (hw _ (List.mem_of_getElem? (i := 10) rfl)) rfl rfl (hb hby d7_12) rfl (by decide) 16 (by decide) (by decide) (by decide) (by decide) (fun T6 h8 b9 ha_b9 A7 E10 V11 R12 => ?_)
  have ne_r0_b9 : r0 ≠ b9 := Nat.ne_of_lt (by rw [ha_b9]; exact Eb.lt)
  have g_b9 : n0 ≤ b9 := by rw [ha_b9]; exact Z0
  have nw_b9 : h0.size ≤ b9 := by rw [ha_b9]; exact (Keep.refl h0 [r0]).1
  have Z13 : n0 ≤ h8.size := Nat.le_trans Z0 E10.1
  have E14 : Exa Z h8 r0 "java/lang/StringBuilder" := Eb.ext E10
  have F15 : Fld Z h8 r0 "java/lang/AbstractStringBuilder" "value" "[B" .null := F0v.ext E10
  have F16 : Fld Z h8 r0 "java/lang/AbstractStringBuilder" "coder" "B" (.int (0 : Int32)) := F0c.ext E10
  have F17 : Fld Z h8 r0 "java/lang/AbstractStringBuilder" "count" "I" (.int (0 : Int32)) := F0n.ext E10
  have K18 : Keep h0 h8 [r0] := (Keep.refl h0 [r0]).ext E10
  show own_Go _ _ _ _ (T6.setTop (mkF m 14 #[.val (.ref r0), .val (.int (16 : Int32))] [(.ref b9), (.ref r0)]))
  refine own_putF A7 hx hZ hown (host := "") (Or.inl (hw _ (List.mem_of_getElem? (i := 51) rfl))) Via.refl F15 E14 (Or.inl (hw _ (List.mem_of_getElem? (i := 52) rfl))) (hw _ (List.mem_of_getElem? (i := 38) rfl)) (ty := (.array .byte)) (by decide) rfl rfl g0 rfl rfl (hb hby d7_14) (fun T19 h21 A20 W22 => ?_)
  have Z23 : n0 ≤ h21.size := Nat.le_trans Z13 (Nat.le_of_eq (Wr.size W22).symm)
  have E24 : Exa Z h21 r0 "java/lang/StringBuilder" := E14.wr W22
  have F25 : Fld Z h21 r0 "java/lang/AbstractStringBuilder" "value" "[B" (.ref b9) := F15.same W22
  have F26 : Fld Z h21 r0 "java/lang/AbstractStringBuilder" "coder" "B" (.int (0 : Int32)) := F16.other W22 (Or.inr (slot_ne (Or.inl (hw _ (List.mem_of_getElem? (i := 54) rfl))) (Or.inl (hw _ (List.mem_of_getElem? (i := 52) rfl))) (by decide) (t := .byte) (t' := (.array .byte)) (by decide) (by decide)))
  have F27 : Fld Z h21 r0 "java/lang/AbstractStringBuilder" "count" "I" (.int (0 : Int32)) := F17.other W22 (Or.inr (slot_ne (Or.inl (hw _ (List.mem_of_getElem? (i := 79) rfl))) (Or.inl (hw _ (List.mem_of_getElem? (i := 52) rfl))) (by decide) (t := .int) (t' := (.array .byte)) (by decide) (by decide)))
  have K28 : Keep h0 h21 [r0] := K18.wr W22 (Or.inl (List.mem_of_getElem? (i := 0) rfl))
  have V29 : own_Arr Z h21 b9 .byte (16 : Int32) (fun _ => 0) := V11.other W22 (Ne.symm ne_r0_b9)
  show own_Go _ _ _ _ (T19.setTop (mkF m 17 #[.val (.ref r0), .val (.int (16 : Int32))] []))
  refine own_go (fun t_ k_ => XS.aloadN A20.here hx rfl (hb hby d7_17) rfl rfl k_) ?_
  show own_Go _ _ _ _ (T19.setTop (mkF m 18 #[.val (.ref r0), .val (.int (16 : Int32))] [(.ref r0)]))
  refine own_go (fun t_ k_ => XS.iconst A20.here hx rfl (hb hby d7_18) k_) ?_
  show own_Go _ _ _ _ (T19.setTop (mkF m 19 #[.val (.ref r0), .val (.int (16 : Int32))] [(.int (0 : Int32)), (.ref r0)]))
  refine own_putF A20 hx hZ hown (host := "") (Or.inl (hw _ (List.mem_of_getElem? (i := 53) rfl))) Via.refl F26 E24 (Or.inl (hw _ (List.mem_of_getElem? (i := 54) rfl))) (hw _ (List.mem_of_getElem? (i := 38) rfl)) (ty := .byte) (by decide) rfl rfl g0 rfl rfl (hb hby d7_19) (fun T30 h32 A31 W33 => ?_)
  have Z34 : n0 ≤ h32.size := Nat.le_trans Z23 (Nat.le_of_eq (Wr.size W33).symm)
  have E35 : Exa Z h32 r0 "java/lang/StringBuilder" := E24.wr W33
  have F36 : Fld Z h32 r0 "java/lang/AbstractStringBuilder" "value" "[B" (.ref b9) := F25.other W33 (Or.inr (slot_ne (Or.inl (hw _ (List.mem_of_getElem? (i := 52) rfl))) (Or.inl (hw _ (List.mem_of_getElem? (i := 54) rfl))) (by decide) (t := (.array .byte)) (t' := .byte) (by decide) (by decide)))
  have F37 : Fld Z h32 r0 "java/lang/AbstractStringBuilder" "coder" "B" (.int (0 : Int32)) := F26.same W33
  have F38 : Fld Z h32 r0 "java/lang/AbstractStringBuilder" "count" "I" (.int (0 : Int32)) := F27.other W33 (Or.inr (slot_ne (Or.inl (hw _ (List.mem_of_getElem? (i := 79) rfl))) (Or.inl (hw _ (List.mem_of_getElem? (i := 54) rfl))) (by decide) (t := .int) (t' := .byte) (by decide) (by decide)))
  have K39 : Keep h0 h32 [r0] := K28.wr W33 (Or.inl (List.mem_of_getElem? (i := 0) rfl))
  have V40 : own_Arr Z h32 b9 .byte (16 : Int32) (fun _ => 0) := V29.other W33 (Ne.symm ne_r0_b9)
  show own_Go _ _ _ _ (T30.setTop (mkF m 22 #[.val (.ref r0), .val (.int (16 : Int32))] []))
  refine own_go (fun t_ k_ => XS.goto A31.here hx rfl (pc0 := 22) (pc' := 38) rfl (hb hby d7_22) (by decide) (by decide) k_) ?_
  show own_Go _ _ _ _ (T30.setTop (mkF m 38 #[.val (.ref r0), .val (.int (16 : Int32))] []))
  refine own_retV A31 hx hret hlk (by decide) (by decide) (hb hby d7_38) ?_
  exact ⟨rfl, K39, b9, g_b9, nw_b9, F36, F37, F38, V40⟩
theorem ef_6 (m : MethodId) (r0 : Addr) : entryFrame m #[(.ref r0)] 1 = mkF m 0 #[.val (.ref r0)] [] := by first | (simp [entryFrame, mkF, argsToLocals, Value.category]; done) | rfl
theorem d6_0 : decode jdk_67_method_1_code 0 = .ok (.aload_n 0, 1) := by decide +kernel
theorem d6_1 : decode jdk_67_method_1_code 1 = .ok (.bipush 16, 2) := by decide +kernel
theorem d6_3 : decode jdk_67_method_1_code 3 = .ok (.invokespecial 1, 3) := by decide +kernel
theorem d6_6 : decode jdk_67_method_1_code 6 = .ok (.return_, 1) := by decide +kernel
set_option maxRecDepth 65536 in
set_option maxHeartbeats 40000000 in
theorem rm6 (l : Launch) (Z : State) (a0 : Array Value) (hw : ∀ d ∈ tables_1, d.before a0 Z = true) (r0 : Addr) (z_C : Int32) (h0 : Heap) (n0 : Nat) (S_C0 : Sta Z h0 "java/lang/String" "COMPACT_STRINGS" "Z" (.int z_C)) (hz : ¬ z_C = 0) (Z0 : n0 ≤ h0.size) (Eb : Exa Z h0 r0 "java/lang/StringBuilder") (F0v : Fld Z h0 r0 "java/lang/AbstractStringBuilder" "value" "[B" .null) (F0c : Fld Z h0 r0 "java/lang/AbstractStringBuilder" "coder" "B" (.int (0 : Int32))) (F0n : Fld Z h0 r0 "java/lang/AbstractStringBuilder" "count" "I" (.int (0 : Int32))) (g0 : n0 ≤ r0) :
    own_Met l Z n0 (⟨"java/lang/StringBuilder", "<init>", "()V"⟩ : MethodName) jdk_67_method_1_code 1 none ({ frames := 2, cells := 1, slots := 16, locals := 25 } : Room) #[(.ref r0)] h0 (fun v h => v = none ∧ Keep h0 h [r0] ∧ ∃ v0, n0 ≤ v0 ∧ h0.size ≤ v0 ∧ Fld Z h r0 "java/lang/AbstractStringBuilder" "value" "[B" (.ref v0) ∧ Fld Z h r0 "java/lang/AbstractStringBuilder" "coder" "B" (.int (0 : Int32)) ∧ Fld Z h r0 "java/lang/AbstractStringBuilder" "count" "I" (.int (0 : Int32)) ∧ own_Arr Z h v0 .byte (16 : Int32) (fun _ => 0)) := by
  refine own_met (plainFor_of_name pn_8) ?_
  intro p e s m below meth c T0 hx hby hml hown hnm hret hlk hZ A0
  rw [ef_6]
  show own_Go _ _ _ _ (T0.setTop (mkF m 0 #[.val (.ref r0)] []))
  refine own_go (fun t_ k_ => XS.aloadN A0.here hx rfl (hb hby d6_0) rfl rfl k_) ?_
  show own_Go _ _ _ _ (T0.setTop (mkF m 1 #[.val (.ref r0)] [(.ref r0)]))
  refine own_go (fun t_ k_ => XS.bipush A0.here hx rfl (hb hby d6_1) k_) ?_
  show own_Go _ _ _ _ (T0.setTop (mkF m 3 #[.val (.ref r0)] [(.int (16 : Int32)), (.ref r0)]))
  refine own_callI A0 hx hZ (y := (⟨"java/lang/AbstractStringBuilder", "<init>", "(I)V"⟩ : MethodName)) rfl hown (hw _ (List.mem_of_getElem? (i := 43) rfl)) (hw _ (List.mem_of_getElem? (i := 44) rfl)) (hw _ (List.mem_of_getElem? (i := 47) rfl)) (hw _ (List.mem_of_getElem? (i := 48) rfl)) (by decide) (b := r0) (argsL := [(.int (16 : Int32))]) (rest := []) (rm7 l Z a0 hw r0 z_C h0 n0 S_C0 hz Z0 Eb F0v F0c F0n g0) 0 (by decide) (by decide) rfl (by rw [hml]; rfl) (lenOf pd__I_V rfl) rfl (by show 2 * 0 + _ ≤ _; exact Nat.le_of_eq rfl) (hb hby d6_3) (by decide) (by decide) (fun v4 T1 h3 A2 hQ5 => ?_)
  obtain ⟨rfl, K6, t7, gt8, nt9, F10, F11, F12, V13⟩ := hQ5
  have ne_r0_t7 : r0 ≠ t7 := Nat.ne_of_lt (Nat.lt_of_lt_of_le Eb.lt nt9)
  have nw_t7 : h0.size ≤ t7 := Nat.le_trans (Keep.refl h0 [r0]).1 nt9
  have Z14 : n0 ≤ h3.size := Nat.le_trans Z0 K6.1
  have E15 : Exa Z h3 r0 "java/lang/StringBuilder" := Eb.keep K6
  have K16 : Keep h0 h3 [r0] := (Keep.refl h0 [r0]).trans K6 (allS (Or.inl (List.mem_of_getElem? (i := 0) rfl)) all0)
  show own_Go _ _ _ _ (T1.setTop (mkF m 6 #[.val (.ref r0)] []))
  refine own_retV A2 hx hret hlk (by decide) (by decide) (hb hby d6_6) ?_
  exact ⟨rfl, K16, t7, gt8, nw_t7, F10, F11, F12, V13⟩
theorem ef_19 (m : MethodId) (r0 : Addr) : entryFrame m #[(.ref r0)] 1 = mkF m 0 #[.val (.ref r0)] [] := by first | (simp [entryFrame, mkF, argsToLocals, Value.category]; done) | rfl
theorem d19_0 : decode jdk_68_method_64_code 0 = .ok (.aload_n 0, 1) := by decide +kernel
theorem d19_1 : decode jdk_68_method_64_code 1 = .ok (.getfield 15, 3) := by decide +kernel
theorem d19_4 : decode jdk_68_method_64_code 4 = .ok (.areturn, 1) := by decide +kernel
set_option maxRecDepth 65536 in
set_option maxHeartbeats 40000000 in
theorem rm19 (l : Launch) (Z : State) (a0 : Array Value) (hw : ∀ d ∈ tables_1, d.before a0 Z = true) (r0 : Addr) (v0 : Addr) (h0 : Heap) (n0 : Nat) (Fbv : Fld Z h0 r0 "java/lang/AbstractStringBuilder" "value" "[B" (.ref v0)) :
    own_Met l Z n0 (⟨"java/lang/AbstractStringBuilder", "getValue", "()[B"⟩ : MethodName) jdk_68_method_64_code 1 (some (.array .byte)) ({ frames := 0, cells := 0, slots := 0, locals := 0 } : Room) #[(.ref r0)] h0 (fun v h => v = some (.ref v0) ∧ h0 = h) := by
  refine own_met (plainFor_of_name pn_12) ?_
  intro p e s m below meth c T0 hx hby hml hown hnm hret hlk hZ A0
  rw [ef_19]
  show own_Go _ _ _ _ (T0.setTop (mkF m 0 #[.val (.ref r0)] []))
  refine own_go (fun t_ k_ => XS.aloadN A0.here hx rfl (hb hby d19_0) rfl rfl k_) ?_
  show own_Go _ _ _ _ (T0.setTop (mkF m 1 #[.val (.ref r0)] [(.ref r0)]))
  refine own_getF A0 hx hZ hown (host := "") (Or.inl (hw _ (List.mem_of_getElem? (i := 51) rfl))) Via.refl Fbv rfl rfl (hb hby d19_1) (fun T1 A2 => ?_)
  show own_Go _ _ _ _ (T1.setTop (mkF m 4 #[.val (.ref r0)] [(.ref v0)]))
  refine own_retA A2 hx hret rfl hlk (by decide) (by decide) rfl (hb hby d19_4) ?_
  exact ⟨rfl, rfl⟩
theorem ef_21 (m : MethodId) (r0 : Addr) : entryFrame m #[(.ref r0)] 1 = mkF m 0 #[.val (.ref r0)] [] := by first | (simp [entryFrame, mkF, argsToLocals, Value.category]; done) | rfl
theorem d21_0 : decode jdk_68_method_6_code 0 = .ok (.aload_n 0, 1) := by decide +kernel
theorem d21_1 : decode jdk_68_method_6_code 1 = .ok (.getfield 79, 3) := by decide +kernel
theorem d21_4 : decode jdk_68_method_6_code 4 = .ok (.ireturn, 1) := by decide +kernel
set_option maxRecDepth 65536 in
set_option maxHeartbeats 40000000 in
theorem rm21 (l : Launch) (Z : State) (a0 : Array Value) (hw : ∀ d ∈ tables_1, d.before a0 Z = true) (r0 : Addr) (cn : Int32) (h0 : Heap) (n0 : Nat) (Eb : Exa Z h0 r0 "java/lang/StringBuilder") (Fbn : Fld Z h0 r0 "java/lang/AbstractStringBuilder" "count" "I" (.int cn)) :
    own_Met l Z n0 (⟨"java/lang/AbstractStringBuilder", "length", "()I"⟩ : MethodName) jdk_68_method_6_code 1 (some .int) ({ frames := 0, cells := 0, slots := 0, locals := 0 } : Room) #[(.ref r0)] h0 (fun v h => v = some (.int cn) ∧ h0 = h) := by
  refine own_met (plainFor_of_name pn_12) ?_
  intro p e s m below meth c T0 hx hby hml hown hnm hret hlk hZ A0
  rw [ef_21]
  show own_Go _ _ _ _ (T0.setTop (mkF m 0 #[.val (.ref r0)] []))
  refine own_go (fun t_ k_ => XS.aloadN A0.here hx rfl (hb hby d21_0) rfl rfl k_) ?_
  show own_Go _ _ _ _ (T0.setTop (mkF m 1 #[.val (.ref r0)] [(.ref r0)]))
  refine own_getF A0 hx hZ hown (host := "") (Or.inl (hw _ (List.mem_of_getElem? (i := 78) rfl))) Via.refl Fbn rfl rfl (hb hby d21_1) (fun T1 A2 => ?_)
  show own_Go _ _ _ _ (T1.setTop (mkF m 4 #[.val (.ref r0)] [(.int cn)]))
  refine own_retI A2 hx hret hlk (by decide) (by decide) (hb hby d21_4) ?_
  exact ⟨rfl, rfl⟩
theorem ef_20 (m : MethodId) (r0 : Addr) : entryFrame m #[(.ref r0)] 1 = mkF m 0 #[.val (.ref r0)] [] := by first | (simp [entryFrame, mkF, argsToLocals, Value.category]; done) | rfl
theorem d20_0 : decode jdk_67_method_93_code 0 = .ok (.aload_n 0, 1) := by decide +kernel
theorem d20_1 : decode jdk_67_method_93_code 1 = .ok (.invokespecial 343, 3) := by decide +kernel
theorem d20_4 : decode jdk_67_method_93_code 4 = .ok (.ireturn, 1) := by decide +kernel
set_option maxRecDepth 65536 in
set_option maxHeartbeats 40000000 in
theorem rm20 (l : Launch) (Z : State) (a0 : Array Value) (hw : ∀ d ∈ tables_1, d.before a0 Z = true) (r0 : Addr) (cn : Int32) (h0 : Heap) (n0 : Nat) (Eb : Exa Z h0 r0 "java/lang/StringBuilder") (Fbn : Fld Z h0 r0 "java/lang/AbstractStringBuilder" "count" "I" (.int cn)) :
    own_Met l Z n0 (⟨"java/lang/StringBuilder", "length", "()I"⟩ : MethodName) jdk_67_method_93_code 1 (some .int) ({ frames := 1, cells := 0, slots := 0, locals := 12 } : Room) #[(.ref r0)] h0 (fun v h => v = some (.int cn) ∧ h0 = h) := by
  refine own_met (plainFor_of_name pn_8) ?_
  intro p e s m below meth c T0 hx hby hml hown hnm hret hlk hZ A0
  rw [ef_20]
  show own_Go _ _ _ _ (T0.setTop (mkF m 0 #[.val (.ref r0)] []))
  refine own_go (fun t_ k_ => XS.aloadN A0.here hx rfl (hb hby d20_0) rfl rfl k_) ?_
  show own_Go _ _ _ _ (T0.setTop (mkF m 1 #[.val (.ref r0)] [(.ref r0)]))
  refine own_callU A0 hx hZ (y := (⟨"java/lang/AbstractStringBuilder", "length", "()I"⟩ : MethodName)) hown (hw _ (List.mem_of_getElem? (i := 132) rfl)) (hw _ (List.mem_of_getElem? (i := 128) rfl)) (hw _ (List.mem_of_getElem? (i := 83) rfl)) rfl (hw _ (List.mem_of_getElem? (i := 62) rfl)) (by decide) (hw _ (List.mem_of_getElem? (i := 47) rfl)) (hw _ (List.mem_of_getElem? (i := 133) rfl)) (by decide) (b := r0) (argsL := []) (rest := []) (Ins.of_exa Eb (hw _ (List.mem_of_getElem? (i := 46) rfl))) (rm21 l Z a0 hw r0 cn h0 n0 Eb Fbn) 0 (by decide) (by decide) rfl (by rw [hml]; rfl) (lenOf pd___I rfl) rfl (by show 2 * 0 + _ ≤ _; exact Nat.le_of_eq rfl) (hb hby d20_1) (by decide) (by decide) (fun v4 T1 h3 A2 hQ5 => ?_)
  obtain ⟨rfl, rfl⟩ := hQ5
  show own_Go _ _ _ _ (T1.setTop (mkF m 4 #[.val (.ref r0)] [(.int cn)]))
  refine own_retI A2 hx hret hlk (by decide) (by decide) (hb hby d20_4) ?_
  exact ⟨rfl, rfl⟩
theorem ef_22 (m : MethodId) (r0 : Addr) : entryFrame m #[(.ref r0)] 1 = mkF m 0 #[.val (.ref r0)] [] := by first | (simp [entryFrame, mkF, argsToLocals, Value.category]; done) | rfl
theorem d22_0 : decode jdk_68_method_68_code 0 = .ok (.getstatic 18, 3) := by decide +kernel
theorem d22_3 : decode jdk_68_method_68_code 3 = .ok (.ifCond .eq 14, 3) := by decide +kernel
theorem d22_6 : decode jdk_68_method_68_code 6 = .ok (.aload_n 0, 1) := by decide +kernel
theorem d22_7 : decode jdk_68_method_68_code 7 = .ok (.getfield 22, 3) := by decide +kernel
theorem d22_10 : decode jdk_68_method_68_code 10 = .ok (.ifCond .ne 7, 3) := by decide +kernel
theorem d22_13 : decode jdk_68_method_68_code 13 = .ok (.iconst 1, 1) := by decide +kernel
theorem d22_14 : decode jdk_68_method_68_code 14 = .ok (.goto 4, 3) := by decide +kernel
theorem d22_18 : decode jdk_68_method_68_code 18 = .ok (.ireturn, 1) := by decide +kernel
set_option maxRecDepth 65536 in
set_option maxHeartbeats 40000000 in
theorem rm22 (l : Launch) (Z : State) (a0 : Array Value) (hw : ∀ d ∈ tables_1, d.before a0 Z = true) (r0 : Addr) (z_C : Int32) (h0 : Heap) (n0 : Nat) (S_C0 : Sta Z h0 "java/lang/String" "COMPACT_STRINGS" "Z" (.int z_C)) (hz : ¬ z_C = 0) (Fbc : Fld Z h0 r0 "java/lang/AbstractStringBuilder" "coder" "B" (.int (0 : Int32))) :
    own_Met l Z n0 (⟨"java/lang/AbstractStringBuilder", "isLatin1", "()Z"⟩ : MethodName) jdk_68_method_68_code 1 (some .boolean) ({ frames := 0, cells := 0, slots := 0, locals := 0 } : Room) #[(.ref r0)] h0 (fun v h => v = some (.int 1) ∧ h0 = h) := by
  refine own_met (plainFor_of_name pn_12) ?_
  intro p e s m below meth c T0 hx hby hml hown hnm hret hlk hZ A0
  rw [ef_22]
  show own_Go _ _ _ _ (T0.setTop (mkF m 0 #[.val (.ref r0)] []))
  refine own_getS A0 hx hZ hown (host := "") (Or.inl (hw _ (List.mem_of_getElem? (i := 50) rfl))) Via.refl S_C0 rfl (hb hby d22_0) (fun T1 A2 => ?_)
  show own_Go _ _ _ _ (T1.setTop (mkF m 3 #[.val (.ref r0)] [(.int z_C)]))
  have hc3 : ¬ (z_C = (0 : Int32)) := hz
  refine own_go (fun t_ k_ => XS.ifNo A2.here hx rfl (hb hby d22_3) rfl ((if0 _ _).trans (feq hc3).1) k_) ?_
  show own_Go _ _ _ _ (T1.setTop (mkF m 6 #[.val (.ref r0)] []))
  refine own_go (fun t_ k_ => XS.aloadN A2.here hx rfl (hb hby d22_6) rfl rfl k_) ?_
  show own_Go _ _ _ _ (T1.setTop (mkF m 7 #[.val (.ref r0)] [(.ref r0)]))
  refine own_getF A2 hx hZ hown (host := "") (Or.inl (hw _ (List.mem_of_getElem? (i := 53) rfl))) Via.refl Fbc rfl rfl (hb hby d22_7) (fun T4 A5 => ?_)
  show own_Go _ _ _ _ (T4.setTop (mkF m 10 #[.val (.ref r0)] [(.int (0 : Int32))]))
  have hc6 : (0 : Int32) = (0 : Int32) := (by decide)
  refine own_go (fun t_ k_ => XS.ifNo A5.here hx rfl (hb hby d22_10) rfl ((if0 _ _).trans (teq hc6).2) k_) ?_
  show own_Go _ _ _ _ (T4.setTop (mkF m 13 #[.val (.ref r0)] []))
  refine own_go (fun t_ k_ => XS.iconst A5.here hx rfl (hb hby d22_13) k_) ?_
  show own_Go _ _ _ _ (T4.setTop (mkF m 14 #[.val (.ref r0)] [(.int (1 : Int32))]))
  refine own_go (fun t_ k_ => XS.goto A5.here hx rfl (pc0 := 14) (pc' := 18) rfl (hb hby d22_14) (by decide) (by decide) k_) ?_
  show own_Go _ _ _ _ (T4.setTop (mkF m 18 #[.val (.ref r0)] [(.int (1 : Int32))]))
  refine own_retN A5 hx (t := .boolean) hret (by simp) hlk (by decide) (by decide) (hb hby d22_18) ?_
  exact ⟨rfl, rfl⟩
theorem ef_25 (m : MethodId) (p0 : Int32) (p1 : Int32) : entryFrame m #[(.int p0), (.int p1)] 2 = mkF m 0 #[.val (.int p0), .val (.int p1)] [] := by first | (simp [entryFrame, mkF, argsToLocals, Value.category]; done) | rfl
theorem pn_25 : plainName "java/util/Arrays" = true := by first | (simp [plainName, overriddenIn]; done) | decide +kernel
theorem d25_0 : decode jdk_65_method_131_code 0 = .ok (.iload_n 1, 1) := by decide +kernel
theorem d25_1 : decode jdk_65_method_131_code 1 = .ok (.iload_n 0, 1) := by decide +kernel
theorem d25_2 : decode jdk_65_method_131_code 2 = .ok (.if_icmp .ge 35, 3) := by decide +kernel
theorem d25_37 : decode jdk_65_method_131_code 37 = .ok (.return_, 1) := by decide +kernel
set_option maxRecDepth 65536 in
set_option maxHeartbeats 40000000 in
theorem rm25 (l : Launch) (Z : State) (a0 : Array Value) (hw : ∀ d ∈ tables_1, d.before a0 Z = true) (p0 : Int32) (p1 : Int32) (h0 : Heap) (n0 : Nat) (hL : ¬ p1 < p0) :
    own_Met l Z n0 (⟨"java/util/Arrays", "checkLength", "(II)V"⟩ : MethodName) jdk_65_method_131_code 2 none ({ frames := 0, cells := 0, slots := 0, locals := 0 } : Room) #[(.int p0), (.int p1)] h0 (fun v h => v = none ∧ h0 = h) := by
  refine own_met (plainFor_of_name pn_25) ?_
  intro p e s m below meth c T0 hx hby hml hown hnm hret hlk hZ A0
  rw [ef_25]
  show own_Go _ _ _ _ (T0.setTop (mkF m 0 #[.val (.int p0), .val (.int p1)] []))
  refine own_go (fun t_ k_ => XS.iloadN A0.here hx rfl (hb hby d25_0) rfl k_) ?_
  show own_Go _ _ _ _ (T0.setTop (mkF m 1 #[.val (.int p0), .val (.int p1)] [(.int p1)]))
  refine own_go (fun t_ k_ => XS.iloadN A0.here hx rfl (hb hby d25_1) rfl k_) ?_
  show own_Go _ _ _ _ (T0.setTop (mkF m 2 #[.val (.int p0), .val (.int p1)] [(.int p0), (.int p1)]))
  have hc1 : ¬ (p1 < p0) := hL
  refine own_go (fun t_ k_ => XS.icmpYes A0.here hx rfl (pc0 := 2) (pc' := 37) rfl (hb hby d25_2) rfl (flt hc1).2.1 (by decide) (by decide) k_) ?_
  show own_Go _ _ _ _ (T0.setTop (mkF m 37 #[.val (.int p0), .val (.int p1)] []))
  refine own_retV A0 hx hret hlk (by decide) (by decide) (hb hby d25_37) ?_
  exact ⟨rfl, rfl⟩
theorem ef_26 (m : MethodId) (p0 : Int32) (p1 : Int32) : entryFrame m #[(.int p0), (.int p1)] 2 = mkF m 0 #[.val (.int p0), .val (.int p1)] [] := by first | (simp [entryFrame, mkF, argsToLocals, Value.category]; done) | rfl
theorem pf_26 : plainFor (⟨"java/lang/Math", "min", "(II)I"⟩ : MethodName) = true := by decide +kernel
theorem d26_0 : decode jdk_29_method_69_code 0 = .ok (.iload_n 0, 1) := by decide +kernel
theorem d26_1 : decode jdk_29_method_69_code 1 = .ok (.iload_n 1, 1) := by decide +kernel
theorem d26_2 : decode jdk_29_method_69_code 2 = .ok (.if_icmp .gt 7, 3) := by decide +kernel
theorem d26_9 : decode jdk_29_method_69_code 9 = .ok (.iload_n 1, 1) := by decide +kernel
theorem d26_5 : decode jdk_29_method_69_code 5 = .ok (.iload_n 0, 1) := by decide +kernel
theorem d26_6 : decode jdk_29_method_69_code 6 = .ok (.goto 4, 3) := by decide +kernel
theorem d26_10 : decode jdk_29_method_69_code 10 = .ok (.ireturn, 1) := by decide +kernel
def f26 (p0 : Int32) (p1 : Int32) : Int32 := (if p1 < p0 then p1 else p0)
set_option maxRecDepth 65536 in
set_option maxHeartbeats 40000000 in
theorem rm26 (l : Launch) (Z : State) (a0 : Array Value) (hw : ∀ d ∈ tables_1, d.before a0 Z = true) (p0 : Int32) (p1 : Int32) (h0 : Heap) (n0 : Nat) :
    own_Met l Z n0 (⟨"java/lang/Math", "min", "(II)I"⟩ : MethodName) jdk_29_method_69_code 2 (some .int) ({ frames := 0, cells := 0, slots := 0, locals := 0 } : Room) #[(.int p0), (.int p1)] h0 (fun v h => v = some (.int (f26 p0 p1)) ∧ h0 = h) := by
  refine own_met pf_26 ?_
  intro p e s m below meth c T0 hx hby hml hown hnm hret hlk hZ A0
  rw [ef_26]
  show own_Go _ _ _ _ (T0.setTop (mkF m 0 #[.val (.int p0), .val (.int p1)] []))
  refine own_go (fun t_ k_ => XS.iloadN A0.here hx rfl (hb hby d26_0) rfl k_) ?_
  show own_Go _ _ _ _ (T0.setTop (mkF m 1 #[.val (.int p0), .val (.int p1)] [(.int p0)]))
  refine own_go (fun t_ k_ => XS.iloadN A0.here hx rfl (hb hby d26_1) rfl k_) ?_
  show own_Go _ _ _ _ (T0.setTop (mkF m 2 #[.val (.int p0), .val (.int p1)] [(.int p1), (.int p0)]))
  have mg1 : ∀ t_, Steps p.tables e below (T0.setTop (mkF m 10 #[.val (.int p0), .val (.int p1)] [(.int (if p1 < p0 then p1 else p0))])) t_ → Steps p.tables e below (T0.setTop (mkF m 2 #[.val (.int p0), .val (.int p1)] [(.int p1), (.int p0)])) t_ := by
    intro t_ k_
    by_cases hm2_0 : p1 < p0
    ·
      simp only [if_pos hm2_0] at k_
      exact (XS.icmpYes A0.here hx rfl (pc0 := 2) (pc' := 9) rfl (hb hby d26_2) rfl (tlt hm2_0).2.2.1 (by decide) (by decide) (XS.iloadN A0.here hx rfl (hb hby d26_9) rfl k_))
    ·
      simp only [if_neg hm2_0] at k_
      exact (XS.icmpNo A0.here hx rfl (hb hby d26_2) rfl (flt hm2_0).2.2.1 (XS.iloadN A0.here hx rfl (hb hby d26_5) rfl (XS.goto A0.here hx rfl (pc0 := 6) (pc' := 10) rfl (hb hby d26_6) (by decide) (by decide) k_)))
  refine own_go mg1 ?_
  show own_Go _ _ _ _ (T0.setTop (mkF m 10 #[.val (.int p0), .val (.int p1)] [(.int (if p1 < p0 then p1 else p0))]))
  refine own_retI A0 hx hret hlk (by decide) (by decide) (hb hby d26_10) ?_
  exact ⟨rfl, rfl⟩
theorem own_min16 (n : Nat) (h : n < 16) : f26 (16 : Int32) (Int32.ofNat n) = Int32.ofNat n := if_pos ((own_nlt (j := 16) (by omega) (by decide)).mpr h)
theorem ef_24 (m : MethodId) (r0 : Addr) (y1 : Int32) (y2 : Int32) : entryFrame m #[(.ref r0), (.int y1), (.int y2)] 5 = mkF m 0 #[.val (.ref r0), .val (.int y1), .val (.int y2), .unset, .unset] [] := by first | (simp [entryFrame, mkF, argsToLocals, Value.category]; done) | rfl
theorem d24_0 : decode jdk_65_method_133_code 0 = .ok (.iload_n 1, 1) := by decide +kernel
theorem d24_1 : decode jdk_65_method_133_code 1 = .ok (.iload_n 2, 1) := by decide +kernel
theorem d24_2 : decode jdk_65_method_133_code 2 = .ok (.invokestatic 343, 3) := by decide +kernel
theorem pd__II_V : parseMethodDescriptor "(II)V" = some ⟨[.int, .int], none⟩ := by decide +kernel
theorem d24_5 : decode jdk_65_method_133_code 5 = .ok (.iload_n 2, 1) := by decide +kernel
theorem d24_6 : decode jdk_65_method_133_code 6 = .ok (.iload_n 1, 1) := by decide +kernel
theorem d24_7 : decode jdk_65_method_133_code 7 = .ok (.isub, 1) := by decide +kernel
theorem d24_8 : decode jdk_65_method_133_code 8 = .ok (.istore_n 3, 1) := by decide +kernel
theorem d24_9 : decode jdk_65_method_133_code 9 = .ok (.iload_n 3, 1) := by decide +kernel
theorem d24_10 : decode jdk_65_method_133_code 10 = .ok (.newarray .byte, 2) := by decide +kernel
theorem d24_12 : decode jdk_65_method_133_code 12 = .ok (.astore 4, 2) := by decide +kernel
theorem d24_14 : decode jdk_65_method_133_code 14 = .ok (.aload_n 0, 1) := by decide +kernel
theorem d24_15 : decode jdk_65_method_133_code 15 = .ok (.iload_n 1, 1) := by decide +kernel
theorem d24_16 : decode jdk_65_method_133_code 16 = .ok (.aload 4, 2) := by decide +kernel
theorem d24_18 : decode jdk_65_method_133_code 18 = .ok (.iconst 0, 1) := by decide +kernel
theorem d24_19 : decode jdk_65_method_133_code 19 = .ok (.aload_n 0, 1) := by decide +kernel
theorem d24_20 : decode jdk_65_method_133_code 20 = .ok (.arraylength, 1) := by decide +kernel
theorem d24_21 : decode jdk_65_method_133_code 21 = .ok (.iload_n 1, 1) := by decide +kernel
theorem d24_22 : decode jdk_65_method_133_code 22 = .ok (.isub, 1) := by decide +kernel
theorem d24_23 : decode jdk_65_method_133_code 23 = .ok (.iload_n 3, 1) := by decide +kernel
theorem d24_24 : decode jdk_65_method_133_code 24 = .ok (.invokestatic 304, 3) := by decide +kernel
theorem pd__II_I : parseMethodDescriptor "(II)I" = some ⟨[.int, .int], some .int⟩ := by decide +kernel
theorem d24_27 : decode jdk_65_method_133_code 27 = .ok (.invokestatic 150, 3) := by decide +kernel
theorem d24_30 : decode jdk_65_method_133_code 30 = .ok (.aload 4, 2) := by decide +kernel
theorem d24_32 : decode jdk_65_method_133_code 32 = .ok (.areturn, 1) := by decide +kernel
set_option maxRecDepth 65536 in
set_option maxHeartbeats 40000000 in
theorem rm24 (l : Launch) (Z : State) (a0 : Array Value) (hw : ∀ d ∈ tables_1, d.before a0 Z = true) (r0 : Addr) (g : Int32 → Int32) (n : Nat) (h0 : Heap) (n0 : Nat) (Z0 : n0 ≤ h0.size) (Vb : own_Arr Z h0 r0 .byte (16 : Int32) g) (Bb : own_Byt g 16) (hn : n < 16) :
    own_Met l Z n0 (⟨"java/util/Arrays", "copyOfRangeByte", "([BII)[B"⟩ : MethodName) jdk_65_method_133_code 5 (some (.array .byte)) ({ frames := 1, cells := 1, slots := 16, locals := 40 } : Room) #[(.ref r0), (.int (0 : Int32)), (.int (Int32.ofNat n))] h0 (fun v h => Keep h0 h [] ∧ ∃ t, v = some (.ref t) ∧ n0 ≤ t ∧ h0.size ≤ t ∧ own_Arr Z h t .byte (Int32.ofNat n) (own_cpf g 0 0 n (fun _ => 0))) := by
  refine own_met (plainFor_of_name pn_25) ?_
  intro p e s m below meth c T0 hx hby hml hown hnm hret hlk hZ A0
  rw [ef_24]
  show own_Go _ _ _ _ (T0.setTop (mkF m 0 #[.val (.ref r0), .val (.int (0 : Int32)), .val (.int (Int32.ofNat n)), .unset, .unset] []))
  refine own_go (fun t_ k_ => XS.iloadN A0.here hx rfl (hb hby d24_0) rfl k_) ?_
  show own_Go _ _ _ _ (T0.setTop (mkF m 1 #[.val (.ref r0), .val (.int (0 : Int32)), .val (.int (Int32.ofNat n)), .unset, .unset] [(.int (0 : Int32))]))
  refine own_go (fun t_ k_ => XS.iloadN A0.here hx rfl (hb hby d24_1) rfl k_) ?_
  show own_Go _ _ _ _ (T0.setTop (mkF m 2 #[.val (.ref r0), .val (.int (0 : Int32)), .val (.int (Int32.ofNat n)), .unset, .unset] [(.int (Int32.ofNat n)), (.int (0 : Int32))]))
  refine own_callS A0 hx hZ hown (y := (⟨"java/util/Arrays", "checkLength", "(II)V"⟩ : MethodName)) (hw _ (List.mem_of_getElem? (i := 146) rfl)) (hw _ (List.mem_of_getElem? (i := 147) rfl)) (hw _ (List.mem_of_getElem? (i := 141) rfl)) (hw _ (List.mem_of_getElem? (i := 148) rfl)) (by decide) (argsL := [(.int (0 : Int32)), (.int (Int32.ofNat n))]) (rest := []) (rm25 l Z a0 hw (0 : Int32) (Int32.ofNat n) h0 n0 (own_nn (by omega))) 0 (by decide) (by decide) rfl (by rw [hml]; rfl) (lenOf pd__II_V rfl) rfl (by show 2 * 0 + _ ≤ _; exact Nat.le_of_eq rfl) (hb hby d24_2) (by decide) (by decide) (fun v4 T1 h3 A2 hQ5 => ?_)
  obtain ⟨rfl, rfl⟩ := hQ5
  show own_Go _ _ _ _ (T1.setTop (mkF m 5 #[.val (.ref r0), .val (.int (0 : Int32)), .val (.int (Int32.ofNat n)), .unset, .unset] []))
  refine own_go (fun t_ k_ => XS.iloadN A2.here hx rfl (hb hby d24_5) rfl k_) ?_
  show own_Go _ _ _ _ (T1.setTop (mkF m 6 #[.val (.ref r0), .val (.int (0 : Int32)), .val (.int (Int32.ofNat n)), .unset, .unset] [(.int (Int32.ofNat n))]))
  refine own_go (fun t_ k_ => XS.iloadN A2.here hx rfl (hb hby d24_6) rfl k_) ?_
  show own_Go _ _ _ _ (T1.setTop (mkF m 7 #[.val (.ref r0), .val (.int (0 : Int32)), .val (.int (Int32.ofNat n)), .unset, .unset] [(.int (0 : Int32)), (.int (Int32.ofNat n))]))
  refine own_go (fun t_ k_ => XS.isub A2.here hx rfl (hb hby d24_7) rfl k_) ?_
  show own_Go _ _ _ _ (T1.setTop (mkF m 8 #[.val (.ref r0), .val (.int (0 : Int32)), .val (.int (Int32.ofNat n)), .unset, .unset] [(.int ((Int32.ofNat n) - (0 : Int32)))]))
  rw [own_sub0]
  show own_Go _ _ _ _ (T1.setTop (mkF m 8 #[.val (.ref r0), .val (.int (0 : Int32)), .val (.int (Int32.ofNat n)), .unset, .unset] [(.int (Int32.ofNat n))]))
  refine own_go (fun t_ k_ => XS.istoreN A2.here hx rfl (hb hby d24_8) rfl (l' := #[.val (.ref r0), .val (.int (0 : Int32)), .val (.int (Int32.ofNat n)), .val (.int (Int32.ofNat n)), .unset]) rfl k_) ?_
  show own_Go _ _ _ _ (T1.setTop (mkF m 9 #[.val (.ref r0), .val (.int (0 : Int32)), .val (.int (Int32.ofNat n)), .val (.int (Int32.ofNat n)), .unset] []))
  refine own_go (fun t_ k_ => XS.iloadN A2.here hx rfl (hb hby d24_9) rfl k_) ?_
  show own_Go _ _ _ _ (T1.setTop (mkF m 10 #[.val (.ref r0), .val (.int (0 : Int32)), .val (.int (Int32.ofNat n)), .val (.int (Int32.ofNat n)), .unset] [(.int (Int32.ofNat n))]))
  refine own_newP A2 hx hZ (hw _ (List.mem_of_getElem? (i := 10) rfl)) rfl rfl (hb hby d24_10) rfl (own_nn (by omega)) 16 (by rw [own_toN (by omega)]; omega) (by decide) (by decide) (by decide) (fun T6 h8 b9 ha_b9 A7 E10 V11 R12 => ?_)
  have ne_r0_b9 : r0 ≠ b9 := Nat.ne_of_lt (by rw [ha_b9]; exact Vb.lt)
  have g_b9 : n0 ≤ b9 := by rw [ha_b9]; exact Z0
  have nw_b9 : h0.size ≤ b9 := by rw [ha_b9]; exact (Keep.refl h0 []).1
  have Z13 : n0 ≤ h8.size := Nat.le_trans Z0 E10.1
  have K14 : Keep h0 h8 [] := (Keep.refl h0 []).ext E10
  have V15 : own_Arr Z h8 r0 .byte (16 : Int32) g := Vb.ext E10
  show own_Go _ _ _ _ (T6.setTop (mkF m 12 #[.val (.ref r0), .val (.int (0 : Int32)), .val (.int (Int32.ofNat n)), .val (.int (Int32.ofNat n)), .unset] [(.ref b9)]))
  refine own_go (fun t_ k_ => XS.astore A7.here hx rfl (hb hby d24_12) rfl rfl (l' := #[.val (.ref r0), .val (.int (0 : Int32)), .val (.int (Int32.ofNat n)), .val (.int (Int32.ofNat n)), .val (.ref b9)]) rfl k_) ?_
  show own_Go _ _ _ _ (T6.setTop (mkF m 14 #[.val (.ref r0), .val (.int (0 : Int32)), .val (.int (Int32.ofNat n)), .val (.int (Int32.ofNat n)), .val (.ref b9)] []))
  refine own_go (fun t_ k_ => XS.aloadN A7.here hx rfl (hb hby d24_14) rfl rfl k_) ?_
  show own_Go _ _ _ _ (T6.setTop (mkF m 15 #[.val (.ref r0), .val (.int (0 : Int32)), .val (.int (Int32.ofNat n)), .val (.int (Int32.ofNat n)), .val (.ref b9)] [(.ref r0)]))
  refine own_go (fun t_ k_ => XS.iloadN A7.here hx rfl (hb hby d24_15) rfl k_) ?_
  show own_Go _ _ _ _ (T6.setTop (mkF m 16 #[.val (.ref r0), .val (.int (0 : Int32)), .val (.int (Int32.ofNat n)), .val (.int (Int32.ofNat n)), .val (.ref b9)] [(.int (0 : Int32)), (.ref r0)]))
  refine own_go (fun t_ k_ => XS.aload A7.here hx rfl (hb hby d24_16) rfl rfl k_) ?_
  show own_Go _ _ _ _ (T6.setTop (mkF m 18 #[.val (.ref r0), .val (.int (0 : Int32)), .val (.int (Int32.ofNat n)), .val (.int (Int32.ofNat n)), .val (.ref b9)] [(.ref b9), (.int (0 : Int32)), (.ref r0)]))
  refine own_go (fun t_ k_ => XS.iconst A7.here hx rfl (hb hby d24_18) k_) ?_
  show own_Go _ _ _ _ (T6.setTop (mkF m 19 #[.val (.ref r0), .val (.int (0 : Int32)), .val (.int (Int32.ofNat n)), .val (.int (Int32.ofNat n)), .val (.ref b9)] [(.int (0 : Int32)), (.ref b9), (.int (0 : Int32)), (.ref r0)]))
  refine own_go (fun t_ k_ => XS.aloadN A7.here hx rfl (hb hby d24_19) rfl rfl k_) ?_
  show own_Go _ _ _ _ (T6.setTop (mkF m 20 #[.val (.ref r0), .val (.int (0 : Int32)), .val (.int (Int32.ofNat n)), .val (.int (Int32.ofNat n)), .val (.ref b9)] [(.ref r0), (.int (0 : Int32)), (.ref b9), (.int (0 : Int32)), (.ref r0)]))
  refine own_len A7 hx hZ V15 rfl rfl (hb hby d24_20) ?_
  show own_Go _ _ _ _ (T6.setTop (mkF m 21 #[.val (.ref r0), .val (.int (0 : Int32)), .val (.int (Int32.ofNat n)), .val (.int (Int32.ofNat n)), .val (.ref b9)] [(.int (16 : Int32)), (.int (0 : Int32)), (.ref b9), (.int (0 : Int32)), (.ref r0)]))
  refine own_go (fun t_ k_ => XS.iloadN A7.here hx rfl (hb hby d24_21) rfl k_) ?_
  show own_Go _ _ _ _ (T6.setTop (mkF m 22 #[.val (.ref r0), .val (.int (0 : Int32)), .val (.int (Int32.ofNat n)), .val (.int (Int32.ofNat n)), .val (.ref b9)] [(.int (0 : Int32)), (.int (16 : Int32)), (.int (0 : Int32)), (.ref b9), (.int (0 : Int32)), (.ref r0)]))
  refine own_go (fun t_ k_ => XS.isub A7.here hx rfl (hb hby d24_22) rfl k_) ?_
  show own_Go _ _ _ _ (T6.setTop (mkF m 23 #[.val (.ref r0), .val (.int (0 : Int32)), .val (.int (Int32.ofNat n)), .val (.int (Int32.ofNat n)), .val (.ref b9)] [(.int (16 : Int32)), (.int (0 : Int32)), (.ref b9), (.int (0 : Int32)), (.ref r0)]))
  refine own_go (fun t_ k_ => XS.iloadN A7.here hx rfl (hb hby d24_23) rfl k_) ?_
  show own_Go _ _ _ _ (T6.setTop (mkF m 24 #[.val (.ref r0), .val (.int (0 : Int32)), .val (.int (Int32.ofNat n)), .val (.int (Int32.ofNat n)), .val (.ref b9)] [(.int (Int32.ofNat n)), (.int (16 : Int32)), (.int (0 : Int32)), (.ref b9), (.int (0 : Int32)), (.ref r0)]))
  refine own_callS A7 hx hZ hown (y := (⟨"java/lang/Math", "min", "(II)I"⟩ : MethodName)) (hw _ (List.mem_of_getElem? (i := 149) rfl)) (hw _ (List.mem_of_getElem? (i := 150) rfl)) (hw _ (List.mem_of_getElem? (i := 151) rfl)) (hw _ (List.mem_of_getElem? (i := 152) rfl)) (by decide) (argsL := [(.int (16 : Int32)), (.int (Int32.ofNat n))]) (rest := [(.int (0 : Int32)), (.ref b9), (.int (0 : Int32)), (.ref r0)]) (rm26 l Z a0 hw (16 : Int32) (Int32.ofNat n) h8 n0 ) 4 (by decide) (by decide) rfl (by rw [hml]; rfl) (lenOf pd__II_I rfl) rfl (by show 2 * 0 + _ ≤ _; exact Nat.le_of_eq rfl) (hb hby d24_24) (by decide) (by decide) (fun v19 T16 h18 A17 hQ20 => ?_)
  obtain ⟨rfl, rfl⟩ := hQ20
  show own_Go _ _ _ _ (T16.setTop (mkF m 27 #[.val (.ref r0), .val (.int (0 : Int32)), .val (.int (Int32.ofNat n)), .val (.int (Int32.ofNat n)), .val (.ref b9)] [(.int (f26 (16 : Int32) (Int32.ofNat n))), (.int (0 : Int32)), (.ref b9), (.int (0 : Int32)), (.ref r0)]))
  rw [own_min16 n hn]
  show own_Go _ _ _ _ (T16.setTop (mkF m 27 #[.val (.ref r0), .val (.int (0 : Int32)), .val (.int (Int32.ofNat n)), .val (.int (Int32.ofNat n)), .val (.ref b9)] [(.int (Int32.ofNat n)), (.int (0 : Int32)), (.ref b9), (.int (0 : Int32)), (.ref r0)]))
  refine own_cpL A17 hx hZ hown (hw _ (List.mem_of_getElem? (i := 153) rfl)) (hw _ (List.mem_of_getElem? (i := 104) rfl)) (hw _ (List.mem_of_getElem? (i := 102) rfl)) (hw _ (List.mem_of_getElem? (i := 103) rfl)) (na := 16) (nb := n) (sp := 0) (dp := 0) (nn := n) V15 V11 (by omega) (by omega) Bb (fun k hk => rfl) (by omega) (by omega) g_b9 rfl (by rw [hml]; rfl) (rest := []) rfl (hb hby d24_27) (by decide) 0 (by show 2 * 0 + _ ≤ _; exact Nat.le_of_eq rfl) (by decide +kernel) (fun T21 h23 A22 K24 V25 => ?_)
  have Z26 : n0 ≤ h23.size := Nat.le_trans Z13 K24.1
  have K27 : Keep h0 h23 [] := K14.trans K24 (allS (Or.inr nw_b9) all0)
  have V28 : own_Arr Z h23 r0 .byte (16 : Int32) g := V15.keep K24 (ninS ne_r0_b9 nin0)
  show own_Go _ _ _ _ (T21.setTop (mkF m 30 #[.val (.ref r0), .val (.int (0 : Int32)), .val (.int (Int32.ofNat n)), .val (.int (Int32.ofNat n)), .val (.ref b9)] []))
  refine own_go (fun t_ k_ => XS.aload A22.here hx rfl (hb hby d24_30) rfl rfl k_) ?_
  show own_Go _ _ _ _ (T21.setTop (mkF m 32 #[.val (.ref r0), .val (.int (0 : Int32)), .val (.int (Int32.ofNat n)), .val (.int (Int32.ofNat n)), .val (.ref b9)] [(.ref b9)]))
  refine own_retA A22 hx hret rfl hlk (by decide) (by decide) rfl (hb hby d24_32) ?_
  exact ⟨K27, b9, rfl, g_b9, nw_b9, V25⟩
theorem ef_23 (m : MethodId) (r0 : Addr) (y1 : Int32) (y2 : Int32) : entryFrame m #[(.ref r0), (.int y1), (.int y2)] 3 = mkF m 0 #[.val (.ref r0), .val (.int y1), .val (.int y2)] [] := by first | (simp [entryFrame, mkF, argsToLocals, Value.category]; done) | rfl
theorem d23_0 : decode jdk_65_method_132_code 0 = .ok (.iload_n 1, 1) := by decide +kernel
theorem d23_1 : decode jdk_65_method_132_code 1 = .ok (.ifCond .ne 9, 3) := by decide +kernel
theorem d23_4 : decode jdk_65_method_132_code 4 = .ok (.iload_n 2, 1) := by decide +kernel
theorem d23_5 : decode jdk_65_method_132_code 5 = .ok (.aload_n 0, 1) := by decide +kernel
theorem d23_6 : decode jdk_65_method_132_code 6 = .ok (.arraylength, 1) := by decide +kernel
theorem d23_7 : decode jdk_65_method_132_code 7 = .ok (.if_icmp .eq 10, 3) := by decide +kernel
theorem d23_10 : decode jdk_65_method_132_code 10 = .ok (.aload_n 0, 1) := by decide +kernel
theorem d23_11 : decode jdk_65_method_132_code 11 = .ok (.iload_n 1, 1) := by decide +kernel
theorem d23_12 : decode jdk_65_method_132_code 12 = .ok (.iload_n 2, 1) := by decide +kernel
theorem d23_13 : decode jdk_65_method_132_code 13 = .ok (.invokestatic 339, 3) := by decide +kernel
theorem pd___BII__B : parseMethodDescriptor "([BII)[B" = some ⟨[(.array .byte), .int, .int], some (.array .byte)⟩ := by decide +kernel
theorem d23_16 : decode jdk_65_method_132_code 16 = .ok (.areturn, 1) := by decide +kernel
set_option maxRecDepth 65536 in
set_option maxHeartbeats 40000000 in
theorem rm23 (l : Launch) (Z : State) (a0 : Array Value) (hw : ∀ d ∈ tables_1, d.before a0 Z = true) (r0 : Addr) (g : Int32 → Int32) (n : Nat) (h0 : Heap) (n0 : Nat) (Z0 : n0 ≤ h0.size) (Vb : own_Arr Z h0 r0 .byte (16 : Int32) g) (Bb : own_Byt g 16) (hn : n < 16) :
    own_Met l Z n0 (⟨"java/util/Arrays", "copyOfRange", "([BII)[B"⟩ : MethodName) jdk_65_method_132_code 3 (some (.array .byte)) ({ frames := 2, cells := 1, slots := 16, locals := 56 } : Room) #[(.ref r0), (.int (0 : Int32)), (.int (Int32.ofNat n))] h0 (fun v h => Keep h0 h [] ∧ ∃ t, v = some (.ref t) ∧ n0 ≤ t ∧ h0.size ≤ t ∧ own_Arr Z h t .byte (Int32.ofNat n) (own_cpf g 0 0 n (fun _ => 0))) := by
  refine own_met (plainFor_of_name pn_25) ?_
  intro p e s m below meth c T0 hx hby hml hown hnm hret hlk hZ A0
  rw [ef_23]
  show own_Go _ _ _ _ (T0.setTop (mkF m 0 #[.val (.ref r0), .val (.int (0 : Int32)), .val (.int (Int32.ofNat n))] []))
  refine own_go (fun t_ k_ => XS.iloadN A0.here hx rfl (hb hby d23_0) rfl k_) ?_
  show own_Go _ _ _ _ (T0.setTop (mkF m 1 #[.val (.ref r0), .val (.int (0 : Int32)), .val (.int (Int32.ofNat n))] [(.int (0 : Int32))]))
  have hc1 : (0 : Int32) = (0 : Int32) := (by decide)
  refine own_go (fun t_ k_ => XS.ifNo A0.here hx rfl (hb hby d23_1) rfl ((if0 _ _).trans (teq hc1).2) k_) ?_
  show own_Go _ _ _ _ (T0.setTop (mkF m 4 #[.val (.ref r0), .val (.int (0 : Int32)), .val (.int (Int32.ofNat n))] []))
  refine own_go (fun t_ k_ => XS.iloadN A0.here hx rfl (hb hby d23_4) rfl k_) ?_
  show own_Go _ _ _ _ (T0.setTop (mkF m 5 #[.val (.ref r0), .val (.int (0 : Int32)), .val (.int (Int32.ofNat n))] [(.int (Int32.ofNat n))]))
  refine own_go (fun t_ k_ => XS.aloadN A0.here hx rfl (hb hby d23_5) rfl rfl k_) ?_
  show own_Go _ _ _ _ (T0.setTop (mkF m 6 #[.val (.ref r0), .val (.int (0 : Int32)), .val (.int (Int32.ofNat n))] [(.ref r0), (.int (Int32.ofNat n))]))
  refine own_len A0 hx hZ Vb rfl rfl (hb hby d23_6) ?_
  show own_Go _ _ _ _ (T0.setTop (mkF m 7 #[.val (.ref r0), .val (.int (0 : Int32)), .val (.int (Int32.ofNat n))] [(.int (16 : Int32)), (.int (Int32.ofNat n))]))
  have hc2 : ¬ ((Int32.ofNat n) = (16 : Int32)) := (fun z => by have := (own_neq (j := 16) (by omega) (by decide)).mp z; omega)
  refine own_go (fun t_ k_ => XS.icmpNo A0.here hx rfl (hb hby d23_7) rfl (feq hc2).1 k_) ?_
  show own_Go _ _ _ _ (T0.setTop (mkF m 10 #[.val (.ref r0), .val (.int (0 : Int32)), .val (.int (Int32.ofNat n))] []))
  refine own_go (fun t_ k_ => XS.aloadN A0.here hx rfl (hb hby d23_10) rfl rfl k_) ?_
  show own_Go _ _ _ _ (T0.setTop (mkF m 11 #[.val (.ref r0), .val (.int (0 : Int32)), .val (.int (Int32.ofNat n))] [(.ref r0)]))
  refine own_go (fun t_ k_ => XS.iloadN A0.here hx rfl (hb hby d23_11) rfl k_) ?_
  show own_Go _ _ _ _ (T0.setTop (mkF m 12 #[.val (.ref r0), .val (.int (0 : Int32)), .val (.int (Int32.ofNat n))] [(.int (0 : Int32)), (.ref r0)]))
  refine own_go (fun t_ k_ => XS.iloadN A0.here hx rfl (hb hby d23_12) rfl k_) ?_
  show own_Go _ _ _ _ (T0.setTop (mkF m 13 #[.val (.ref r0), .val (.int (0 : Int32)), .val (.int (Int32.ofNat n))] [(.int (Int32.ofNat n)), (.int (0 : Int32)), (.ref r0)]))
  refine own_callS A0 hx hZ hown (y := (⟨"java/util/Arrays", "copyOfRangeByte", "([BII)[B"⟩ : MethodName)) (hw _ (List.mem_of_getElem? (i := 143) rfl)) (hw _ (List.mem_of_getElem? (i := 144) rfl)) (hw _ (List.mem_of_getElem? (i := 141) rfl)) (hw _ (List.mem_of_getElem? (i := 145) rfl)) (by decide) (argsL := [(.ref r0), (.int (0 : Int32)), (.int (Int32.ofNat n))]) (rest := []) (rm24 l Z a0 hw r0 g n h0 n0 Z0 Vb Bb hn) 0 (by decide) (by decide) rfl (by rw [hml]; rfl) (lenOf pd___BII__B rfl) rfl (by show 2 * 0 + _ ≤ _; exact Nat.le_of_eq rfl) (hb hby d23_13) (by decide) (by decide) (fun v6 T3 h5 A4 hQ7 => ?_)
  obtain ⟨K8, t9, rfl, gt10, nt11, V12⟩ := hQ7
  have ne_r0_t9 : r0 ≠ t9 := Nat.ne_of_lt (Nat.lt_of_lt_of_le Vb.lt nt11)
  have nw_t9 : h0.size ≤ t9 := Nat.le_trans (Keep.refl h0 []).1 nt11
  have Z13 : n0 ≤ h5.size := Nat.le_trans Z0 K8.1
  have K14 : Keep h0 h5 [] := (Keep.refl h0 []).trans K8 all0
  have V15 : own_Arr Z h5 r0 .byte (16 : Int32) g := Vb.keep K8 nin0
  show own_Go _ _ _ _ (T3.setTop (mkF m 16 #[.val (.ref r0), .val (.int (0 : Int32)), .val (.int (Int32.ofNat n))] [(.ref t9)]))
  refine own_retA A4 hx hret rfl hlk (by decide) (by decide) rfl (hb hby d23_16) ?_
  exact ⟨K14, t9, rfl, gt10, nw_t9, V12⟩
theorem ef_18 (m : MethodId) (r0 : Addr) (r1 : Addr) : entryFrame m #[(.ref r0), (.ref r1), .null] 5 = mkF m 0 #[.val (.ref r0), .val (.ref r1), .val .null, .unset, .unset] [] := by first | (simp [entryFrame, mkF, argsToLocals, Value.category]; done) | rfl
theorem d18_0 : decode jdk_42_method_150_code 0 = .ok (.aload_n 0, 1) := by decide +kernel
theorem d18_1 : decode jdk_42_method_150_code 1 = .ok (.invokespecial 1, 3) := by decide +kernel
theorem d18_4 : decode jdk_42_method_150_code 4 = .ok (.aload_n 1, 1) := by decide +kernel
theorem d18_5 : decode jdk_42_method_150_code 5 = .ok (.invokevirtual 552, 3) := by decide +kernel
theorem pd____B : parseMethodDescriptor "()[B" = some ⟨[], some (.array .byte)⟩ := by decide +kernel
theorem d18_8 : decode jdk_42_method_150_code 8 = .ok (.astore_n 3, 1) := by decide +kernel
theorem d18_9 : decode jdk_42_method_150_code 9 = .ok (.aload_n 1, 1) := by decide +kernel
theorem d18_10 : decode jdk_42_method_150_code 10 = .ok (.invokevirtual 549, 3) := by decide +kernel
theorem d18_13 : decode jdk_42_method_150_code 13 = .ok (.istore 4, 2) := by decide +kernel
theorem d18_15 : decode jdk_42_method_150_code 15 = .ok (.aload_n 1, 1) := by decide +kernel
theorem d18_16 : decode jdk_42_method_150_code 16 = .ok (.invokevirtual 1047, 3) := by decide +kernel
theorem pd___Z : parseMethodDescriptor "()Z" = some ⟨[], some .boolean⟩ := by decide +kernel
theorem d18_19 : decode jdk_42_method_150_code 19 = .ok (.ifCond .eq 22, 3) := by decide +kernel
theorem d18_22 : decode jdk_42_method_150_code 22 = .ok (.aload_n 0, 1) := by decide +kernel
theorem d18_23 : decode jdk_42_method_150_code 23 = .ok (.iconst 0, 1) := by decide +kernel
theorem d18_24 : decode jdk_42_method_150_code 24 = .ok (.putfield 15, 3) := by decide +kernel
theorem d18_27 : decode jdk_42_method_150_code 27 = .ok (.aload_n 0, 1) := by decide +kernel
theorem d18_28 : decode jdk_42_method_150_code 28 = .ok (.aload_n 3, 1) := by decide +kernel
theorem d18_29 : decode jdk_42_method_150_code 29 = .ok (.iconst 0, 1) := by decide +kernel
theorem d18_30 : decode jdk_42_method_150_code 30 = .ok (.iload 4, 2) := by decide +kernel
theorem d18_32 : decode jdk_42_method_150_code 32 = .ok (.invokestatic 54, 3) := by decide +kernel
theorem d18_35 : decode jdk_42_method_150_code 35 = .ok (.putfield 9, 3) := by decide +kernel
theorem d18_38 : decode jdk_42_method_150_code 38 = .ok (.goto 59, 3) := by decide +kernel
theorem d18_97 : decode jdk_42_method_150_code 97 = .ok (.return_, 1) := by decide +kernel
set_option maxRecDepth 65536 in
set_option maxHeartbeats 40000000 in
theorem rm18 (l : Launch) (Z : State) (a0 : Array Value) (hw : ∀ d ∈ tables_1, d.before a0 Z = true) (r0 : Addr) (r1 : Addr) (z_C : Int32) (v0 : Addr) (g : Int32 → Int32) (n : Nat) (h0 : Heap) (n0 : Nat) (S_C0 : Sta Z h0 "java/lang/String" "COMPACT_STRINGS" "Z" (.int z_C)) (hz : ¬ z_C = 0) (Z0 : n0 ≤ h0.size) (E0 : Exa Z h0 r0 "java/lang/String") (Fv0 : Fld Z h0 r0 "java/lang/String" "value" "[B" .null) (Fc0 : Fld Z h0 r0 "java/lang/String" "coder" "B" (.int (0 : Int32))) (g0 : n0 ≤ r0) (Eb : Exa Z h0 r1 "java/lang/StringBuilder") (Fbv : Fld Z h0 r1 "java/lang/AbstractStringBuilder" "value" "[B" (.ref v0)) (Fbc : Fld Z h0 r1 "java/lang/AbstractStringBuilder" "coder" "B" (.int (0 : Int32))) (Fbn : Fld Z h0 r1 "java/lang/AbstractStringBuilder" "count" "I" (.int (Int32.ofNat n))) (Vb : own_Arr Z h0 v0 .byte (16 : Int32) g) (Bb : own_Byt g 16) (hn : n < 16) (ne_r0_r1 : r0 ≠ r1) (ne_r0_v0 : r0 ≠ v0) :
    own_Met l Z n0 (⟨"java/lang/String", "<init>", "(Ljava/lang/AbstractStringBuilder;Ljava/lang/Void;)V"⟩ : MethodName) jdk_42_method_150_code 5 none ({ frames := 3, cells := 1, slots := 16, locals := 71 } : Room) #[(.ref r0), (.ref r1), .null] h0 (fun v h => v = none ∧ Keep h0 h [r0] ∧ Fld Z h r0 "java/lang/String" "coder" "B" (.int (0 : Int32)) ∧ ∃ t, n0 ≤ t ∧ h0.size ≤ t ∧ Fld Z h r0 "java/lang/String" "value" "[B" (.ref t) ∧ own_Arr Z h t .byte (Int32.ofNat n) (own_cpf g 0 0 n (fun _ => 0))) := by
  refine own_met (plainFor_of_name pn_11) ?_
  intro p e s m below meth c T0 hx hby hml hown hnm hret hlk hZ A0
  rw [ef_18]
  show own_Go _ _ _ _ (T0.setTop (mkF m 0 #[.val (.ref r0), .val (.ref r1), .val .null, .unset, .unset] []))
  refine own_go (fun t_ k_ => XS.aloadN A0.here hx rfl (hb hby d18_0) rfl rfl k_) ?_
  show own_Go _ _ _ _ (T0.setTop (mkF m 1 #[.val (.ref r0), .val (.ref r1), .val .null, .unset, .unset] [(.ref r0)]))
  refine own_initO A0 hx hZ hown (hw _ (List.mem_of_getElem? (i := 120) rfl)) (hw _ (List.mem_of_getElem? (i := 24) rfl)) (hw _ (List.mem_of_getElem? (i := 25) rfl)) rfl (by rw [hml]; rfl) rfl (hb hby d18_1) (by decide) 0 (by show 2 * 0 + _ ≤ _; exact Nat.le_of_eq rfl) (by decide) (fun T1 A2 => ?_)
  show own_Go _ _ _ _ (T1.setTop (mkF m 4 #[.val (.ref r0), .val (.ref r1), .val .null, .unset, .unset] []))
  refine own_go (fun t_ k_ => XS.aloadN A2.here hx rfl (hb hby d18_4) rfl rfl k_) ?_
  show own_Go _ _ _ _ (T1.setTop (mkF m 5 #[.val (.ref r0), .val (.ref r1), .val .null, .unset, .unset] [(.ref r1)]))
  refine own_callV A2 hx hZ (y := (⟨"java/lang/AbstractStringBuilder", "getValue", "()[B"⟩ : MethodName)) (z := (⟨"java/lang/AbstractStringBuilder", "getValue", "()[B"⟩ : MethodName)) hown (hw _ (List.mem_of_getElem? (i := 121) rfl)) (hw _ (List.mem_of_getElem? (i := 122) rfl)) (hw _ (List.mem_of_getElem? (i := 124) rfl)) (hw _ (List.mem_of_getElem? (i := 123) rfl)) (hw _ (List.mem_of_getElem? (i := 47) rfl)) (hw _ (List.mem_of_getElem? (i := 125) rfl)) (notFace_of_selects (args := #[]) (mvT hZ (hw _ (List.mem_of_getElem? (i := 124) rfl)))) (by decide) (b := r1) (argsL := []) (rest := []) Eb (rm19 l Z a0 hw r1 v0 h0 n0 Fbv) 0 (by decide) (by decide) rfl (by rw [hml]; rfl) (lenOf pd____B rfl) rfl (by show 2 * 0 + _ ≤ _; exact Nat.le_of_eq rfl) (hb hby d18_5) (by decide) (by decide) (fun v6 T3 h5 A4 hQ7 => ?_)
  obtain ⟨rfl, rfl⟩ := hQ7
  show own_Go _ _ _ _ (T3.setTop (mkF m 8 #[.val (.ref r0), .val (.ref r1), .val .null, .unset, .unset] [(.ref v0)]))
  refine own_go (fun t_ k_ => XS.astoreN A4.here hx rfl (hb hby d18_8) rfl rfl (l' := #[.val (.ref r0), .val (.ref r1), .val .null, .val (.ref v0), .unset]) rfl k_) ?_
  show own_Go _ _ _ _ (T3.setTop (mkF m 9 #[.val (.ref r0), .val (.ref r1), .val .null, .val (.ref v0), .unset] []))
  refine own_go (fun t_ k_ => XS.aloadN A4.here hx rfl (hb hby d18_9) rfl rfl k_) ?_
  show own_Go _ _ _ _ (T3.setTop (mkF m 10 #[.val (.ref r0), .val (.ref r1), .val .null, .val (.ref v0), .unset] [(.ref r1)]))
  refine own_callV A4 hx hZ (y := (⟨"java/lang/AbstractStringBuilder", "length", "()I"⟩ : MethodName)) (z := (⟨"java/lang/StringBuilder", "length", "()I"⟩ : MethodName)) hown (hw _ (List.mem_of_getElem? (i := 126) rfl)) (hw _ (List.mem_of_getElem? (i := 127) rfl)) (hw _ (List.mem_of_getElem? (i := 129) rfl)) (hw _ (List.mem_of_getElem? (i := 130) rfl)) (hw _ (List.mem_of_getElem? (i := 39) rfl)) (hw _ (List.mem_of_getElem? (i := 131) rfl)) (own_notFace (args := #[]) (mvT hZ (hw _ (List.mem_of_getElem? (i := 83) rfl))) rfl) (by decide) (b := r1) (argsL := []) (rest := []) Eb (rm20 l Z a0 hw r1 (Int32.ofNat n) h0 n0 Eb Fbn) 0 (by decide) (by decide) rfl (by rw [hml]; rfl) (lenOf pd___I rfl) rfl (by show 2 * 0 + _ ≤ _; exact Nat.le_of_eq rfl) (hb hby d18_10) (by decide) (by decide) (fun v11 T8 h10 A9 hQ12 => ?_)
  obtain ⟨rfl, rfl⟩ := hQ12
  show own_Go _ _ _ _ (T8.setTop (mkF m 13 #[.val (.ref r0), .val (.ref r1), .val .null, .val (.ref v0), .unset] [(.int (Int32.ofNat n))]))
  refine own_go (fun t_ k_ => XS.istore A9.here hx rfl (hb hby d18_13) rfl (l' := #[.val (.ref r0), .val (.ref r1), .val .null, .val (.ref v0), .val (.int (Int32.ofNat n))]) rfl k_) ?_
  show own_Go _ _ _ _ (T8.setTop (mkF m 15 #[.val (.ref r0), .val (.ref r1), .val .null, .val (.ref v0), .val (.int (Int32.ofNat n))] []))
  refine own_go (fun t_ k_ => XS.aloadN A9.here hx rfl (hb hby d18_15) rfl rfl k_) ?_
  show own_Go _ _ _ _ (T8.setTop (mkF m 16 #[.val (.ref r0), .val (.ref r1), .val .null, .val (.ref v0), .val (.int (Int32.ofNat n))] [(.ref r1)]))
  refine own_callV A9 hx hZ (y := (⟨"java/lang/AbstractStringBuilder", "isLatin1", "()Z"⟩ : MethodName)) (z := (⟨"java/lang/AbstractStringBuilder", "isLatin1", "()Z"⟩ : MethodName)) hown (hw _ (List.mem_of_getElem? (i := 134) rfl)) (hw _ (List.mem_of_getElem? (i := 135) rfl)) (hw _ (List.mem_of_getElem? (i := 137) rfl)) (hw _ (List.mem_of_getElem? (i := 136) rfl)) (hw _ (List.mem_of_getElem? (i := 47) rfl)) (hw _ (List.mem_of_getElem? (i := 138) rfl)) (notFace_of_selects (args := #[]) (mvT hZ (hw _ (List.mem_of_getElem? (i := 137) rfl)))) (by decide) (b := r1) (argsL := []) (rest := []) Eb (rm22 l Z a0 hw r1 z_C h0 n0 S_C0 hz Fbc) 0 (by decide) (by decide) rfl (by rw [hml]; rfl) (lenOf pd___Z rfl) rfl (by show 2 * 0 + _ ≤ _; exact Nat.le_of_eq rfl) (hb hby d18_16) (by decide) (by decide) (fun v16 T13 h15 A14 hQ17 => ?_)
  obtain ⟨rfl, rfl⟩ := hQ17
  show own_Go _ _ _ _ (T13.setTop (mkF m 19 #[.val (.ref r0), .val (.ref r1), .val .null, .val (.ref v0), .val (.int (Int32.ofNat n))] [(.int (1 : Int32))]))
  have hc18 : ¬ ((1 : Int32) = (0 : Int32)) := (by decide)
  refine own_go (fun t_ k_ => XS.ifNo A14.here hx rfl (hb hby d18_19) rfl ((if0 _ _).trans (feq hc18).1) k_) ?_
  show own_Go _ _ _ _ (T13.setTop (mkF m 22 #[.val (.ref r0), .val (.ref r1), .val .null, .val (.ref v0), .val (.int (Int32.ofNat n))] []))
  refine own_go (fun t_ k_ => XS.aloadN A14.here hx rfl (hb hby d18_22) rfl rfl k_) ?_
  show own_Go _ _ _ _ (T13.setTop (mkF m 23 #[.val (.ref r0), .val (.ref r1), .val .null, .val (.ref v0), .val (.int (Int32.ofNat n))] [(.ref r0)]))
  refine own_go (fun t_ k_ => XS.iconst A14.here hx rfl (hb hby d18_23) k_) ?_
  show own_Go _ _ _ _ (T13.setTop (mkF m 24 #[.val (.ref r0), .val (.ref r1), .val .null, .val (.ref v0), .val (.int (Int32.ofNat n))] [(.int (0 : Int32)), (.ref r0)]))
  refine own_putF A14 hx hZ hown (host := "") (Or.inl (hw _ (List.mem_of_getElem? (i := 77) rfl))) Via.refl Fc0 E0 (Or.inr ⟨(hw _ (List.mem_of_getElem? (i := 12) rfl)), rfl, hnm⟩) (hw _ (List.mem_of_getElem? (i := 9) rfl)) (ty := .byte) (by decide) rfl rfl g0 rfl rfl (hb hby d18_24) (fun T19 h21 A20 W22 => ?_)
  have Z23 : n0 ≤ h21.size := Nat.le_trans Z0 (Nat.le_of_eq (Wr.size W22).symm)
  have E24 : Exa Z h21 r0 "java/lang/String" := E0.wr W22
  have F25 : Fld Z h21 r0 "java/lang/String" "value" "[B" .null := Fv0.other W22 (Or.inr (slot_ne (Or.inr (hw _ (List.mem_of_getElem? (i := 11) rfl))) (Or.inr (hw _ (List.mem_of_getElem? (i := 12) rfl))) (by decide) (t := (.array .byte)) (t' := .byte) (by decide) (by decide)))
  have F26 : Fld Z h21 r0 "java/lang/String" "coder" "B" (.int (0 : Int32)) := Fc0.same W22
  have K27 : Keep h0 h21 [r0] := (Keep.refl h0 [r0]).wr W22 (Or.inl (List.mem_of_getElem? (i := 0) rfl))
  have E28 : Exa Z h21 r1 "java/lang/StringBuilder" := Eb.wr W22
  have F29 : Fld Z h21 r1 "java/lang/AbstractStringBuilder" "value" "[B" (.ref v0) := Fbv.other W22 (Or.inl (Ne.symm ne_r0_r1))
  have F30 : Fld Z h21 r1 "java/lang/AbstractStringBuilder" "coder" "B" (.int (0 : Int32)) := Fbc.other W22 (Or.inl (Ne.symm ne_r0_r1))
  have F31 : Fld Z h21 r1 "java/lang/AbstractStringBuilder" "count" "I" (.int (Int32.ofNat n)) := Fbn.other W22 (Or.inl (Ne.symm ne_r0_r1))
  have V32 : own_Arr Z h21 v0 .byte (16 : Int32) g := Vb.other W22 (Ne.symm ne_r0_v0)
  show own_Go _ _ _ _ (T19.setTop (mkF m 27 #[.val (.ref r0), .val (.ref r1), .val .null, .val (.ref v0), .val (.int (Int32.ofNat n))] []))
  refine own_go (fun t_ k_ => XS.aloadN A20.here hx rfl (hb hby d18_27) rfl rfl k_) ?_
  show own_Go _ _ _ _ (T19.setTop (mkF m 28 #[.val (.ref r0), .val (.ref r1), .val .null, .val (.ref v0), .val (.int (Int32.ofNat n))] [(.ref r0)]))
  refine own_go (fun t_ k_ => XS.aloadN A20.here hx rfl (hb hby d18_28) rfl rfl k_) ?_
  show own_Go _ _ _ _ (T19.setTop (mkF m 29 #[.val (.ref r0), .val (.ref r1), .val .null, .val (.ref v0), .val (.int (Int32.ofNat n))] [(.ref v0), (.ref r0)]))
  refine own_go (fun t_ k_ => XS.iconst A20.here hx rfl (hb hby d18_29) k_) ?_
  show own_Go _ _ _ _ (T19.setTop (mkF m 30 #[.val (.ref r0), .val (.ref r1), .val .null, .val (.ref v0), .val (.int (Int32.ofNat n))] [(.int (0 : Int32)), (.ref v0), (.ref r0)]))
  refine own_go (fun t_ k_ => XS.iload A20.here hx rfl (hb hby d18_30) rfl k_) ?_
  show own_Go _ _ _ _ (T19.setTop (mkF m 32 #[.val (.ref r0), .val (.ref r1), .val .null, .val (.ref v0), .val (.int (Int32.ofNat n))] [(.int (Int32.ofNat n)), (.int (0 : Int32)), (.ref v0), (.ref r0)]))
  refine own_callS A20 hx hZ hown (y := (⟨"java/util/Arrays", "copyOfRange", "([BII)[B"⟩ : MethodName)) (hw _ (List.mem_of_getElem? (i := 139) rfl)) (hw _ (List.mem_of_getElem? (i := 140) rfl)) (hw _ (List.mem_of_getElem? (i := 141) rfl)) (hw _ (List.mem_of_getElem? (i := 142) rfl)) (by decide) (argsL := [(.ref v0), (.int (0 : Int32)), (.int (Int32.ofNat n))]) (rest := [(.ref r0)]) (rm23 l Z a0 hw v0 g n h21 n0 Z23 V32 Bb hn) 1 (by decide) (by decide) rfl (by rw [hml]; rfl) (lenOf pd___BII__B rfl) rfl (by show 2 * 0 + _ ≤ _; exact Nat.le_of_eq rfl) (hb hby d18_32) (by decide) (by decide) (fun v36 T33 h35 A34 hQ37 => ?_)
  obtain ⟨K38, t39, rfl, gt40, nt41, V42⟩ := hQ37
  have ne_r0_t39 : r0 ≠ t39 := Nat.ne_of_lt (Nat.lt_of_lt_of_le E24.lt nt41)
  have ne_r1_t39 : r1 ≠ t39 := Nat.ne_of_lt (Nat.lt_of_lt_of_le E28.lt nt41)
  have ne_v0_t39 : v0 ≠ t39 := Nat.ne_of_lt (Nat.lt_of_lt_of_le V32.lt nt41)
  have nw_t39 : h0.size ≤ t39 := Nat.le_trans K27.1 nt41
  have Z43 : n0 ≤ h35.size := Nat.le_trans Z23 K38.1
  have E44 : Exa Z h35 r0 "java/lang/String" := E24.keep K38
  have F45 : Fld Z h35 r0 "java/lang/String" "value" "[B" .null := F25.keep K38 nin0
  have F46 : Fld Z h35 r0 "java/lang/String" "coder" "B" (.int (0 : Int32)) := F26.keep K38 nin0
  have K47 : Keep h0 h35 [r0] := K27.trans K38 all0
  have E48 : Exa Z h35 r1 "java/lang/StringBuilder" := E28.keep K38
  have F49 : Fld Z h35 r1 "java/lang/AbstractStringBuilder" "value" "[B" (.ref v0) := F29.keep K38 nin0
  have F50 : Fld Z h35 r1 "java/lang/AbstractStringBuilder" "coder" "B" (.int (0 : Int32)) := F30.keep K38 nin0
  have F51 : Fld Z h35 r1 "java/lang/AbstractStringBuilder" "count" "I" (.int (Int32.ofNat n)) := F31.keep K38 nin0
  have V52 : own_Arr Z h35 v0 .byte (16 : Int32) g := V32.keep K38 nin0
  show own_Go _ _ _ _ (T33.setTop (mkF m 35 #[.val (.ref r0), .val (.ref r1), .val .null, .val (.ref v0), .val (.int (Int32.ofNat n))] [(.ref t39), (.ref r0)]))
  refine own_putF A34 hx hZ hown (host := "") (Or.inl (hw _ (List.mem_of_getElem? (i := 70) rfl))) Via.refl F45 E44 (Or.inr ⟨(hw _ (List.mem_of_getElem? (i := 11) rfl)), rfl, hnm⟩) (hw _ (List.mem_of_getElem? (i := 9) rfl)) (ty := (.array .byte)) (by decide) rfl rfl g0 rfl rfl (hb hby d18_35) (fun T53 h55 A54 W56 => ?_)
  have Z57 : n0 ≤ h55.size := Nat.le_trans Z43 (Nat.le_of_eq (Wr.size W56).symm)
  have E58 : Exa Z h55 r0 "java/lang/String" := E44.wr W56
  have F59 : Fld Z h55 r0 "java/lang/String" "value" "[B" (.ref t39) := F45.same W56
  have F60 : Fld Z h55 r0 "java/lang/String" "coder" "B" (.int (0 : Int32)) := F46.other W56 (Or.inr (slot_ne (Or.inr (hw _ (List.mem_of_getElem? (i := 12) rfl))) (Or.inr (hw _ (List.mem_of_getElem? (i := 11) rfl))) (by decide) (t := .byte) (t' := (.array .byte)) (by decide) (by decide)))
  have K61 : Keep h0 h55 [r0] := K47.wr W56 (Or.inl (List.mem_of_getElem? (i := 0) rfl))
  have E62 : Exa Z h55 r1 "java/lang/StringBuilder" := E48.wr W56
  have F63 : Fld Z h55 r1 "java/lang/AbstractStringBuilder" "value" "[B" (.ref v0) := F49.other W56 (Or.inl (Ne.symm ne_r0_r1))
  have F64 : Fld Z h55 r1 "java/lang/AbstractStringBuilder" "coder" "B" (.int (0 : Int32)) := F50.other W56 (Or.inl (Ne.symm ne_r0_r1))
  have F65 : Fld Z h55 r1 "java/lang/AbstractStringBuilder" "count" "I" (.int (Int32.ofNat n)) := F51.other W56 (Or.inl (Ne.symm ne_r0_r1))
  have V66 : own_Arr Z h55 v0 .byte (16 : Int32) g := V52.other W56 (Ne.symm ne_r0_v0)
  have V67 : own_Arr Z h55 t39 .byte (Int32.ofNat n) (own_cpf g 0 0 n (fun _ => 0)) := V42.other W56 (Ne.symm ne_r0_t39)
  show own_Go _ _ _ _ (T53.setTop (mkF m 38 #[.val (.ref r0), .val (.ref r1), .val .null, .val (.ref v0), .val (.int (Int32.ofNat n))] []))
  refine own_go (fun t_ k_ => XS.goto A54.here hx rfl (pc0 := 38) (pc' := 97) rfl (hb hby d18_38) (by decide) (by decide) k_) ?_
  show own_Go _ _ _ _ (T53.setTop (mkF m 97 #[.val (.ref r0), .val (.ref r1), .val .null, .val (.ref v0), .val (.int (Int32.ofNat n))] []))
  refine own_retV A54 hx hret hlk (by decide) (by decide) (hb hby d18_97) ?_
  exact ⟨rfl, K61, F60, t39, gt40, nw_t39, F59, V67⟩
theorem ef_17 (m : MethodId) (r0 : Addr) (r1 : Addr) : entryFrame m #[(.ref r0), (.ref r1)] 2 = mkF m 0 #[.val (.ref r0), .val (.ref r1)] [] := by first | (simp [entryFrame, mkF, argsToLocals, Value.category]; done) | rfl
theorem d17_0 : decode jdk_42_method_53_code 0 = .ok (.aload_n 0, 1) := by decide +kernel
theorem d17_1 : decode jdk_42_method_53_code 1 = .ok (.aload_n 1, 1) := by decide +kernel
theorem d17_2 : decode jdk_42_method_53_code 2 = .ok (.aconst_null, 1) := by decide +kernel
theorem d17_3 : decode jdk_42_method_53_code 3 = .ok (.invokespecial 489, 3) := by decide +kernel
theorem pd__Ljava_lang_AbstractStringBuilder_Ljava_lang_Void__V : parseMethodDescriptor "(Ljava/lang/AbstractStringBuilder;Ljava/lang/Void;)V" = some ⟨[(.object "java/lang/AbstractStringBuilder"), (.object "java/lang/Void")], none⟩ := by decide +kernel
theorem d17_6 : decode jdk_42_method_53_code 6 = .ok (.return_, 1) := by decide +kernel
set_option maxRecDepth 65536 in
set_option maxHeartbeats 40000000 in
theorem rm17 (l : Launch) (Z : State) (a0 : Array Value) (hw : ∀ d ∈ tables_1, d.before a0 Z = true) (r0 : Addr) (r1 : Addr) (z_C : Int32) (v0 : Addr) (g : Int32 → Int32) (n : Nat) (h0 : Heap) (n0 : Nat) (S_C0 : Sta Z h0 "java/lang/String" "COMPACT_STRINGS" "Z" (.int z_C)) (hz : ¬ z_C = 0) (Z0 : n0 ≤ h0.size) (E0 : Exa Z h0 r0 "java/lang/String") (Fv0 : Fld Z h0 r0 "java/lang/String" "value" "[B" .null) (Fc0 : Fld Z h0 r0 "java/lang/String" "coder" "B" (.int (0 : Int32))) (g0 : n0 ≤ r0) (Eb : Exa Z h0 r1 "java/lang/StringBuilder") (Fbv : Fld Z h0 r1 "java/lang/AbstractStringBuilder" "value" "[B" (.ref v0)) (Fbc : Fld Z h0 r1 "java/lang/AbstractStringBuilder" "coder" "B" (.int (0 : Int32))) (Fbn : Fld Z h0 r1 "java/lang/AbstractStringBuilder" "count" "I" (.int (Int32.ofNat n))) (Vb : own_Arr Z h0 v0 .byte (16 : Int32) g) (Bb : own_Byt g 16) (hn : n < 16) (ne_r0_r1 : r0 ≠ r1) (ne_r0_v0 : r0 ≠ v0) :
    own_Met l Z n0 (⟨"java/lang/String", "<init>", "(Ljava/lang/StringBuilder;)V"⟩ : MethodName) jdk_42_method_53_code 2 none ({ frames := 4, cells := 1, slots := 16, locals := 87 } : Room) #[(.ref r0), (.ref r1)] h0 (fun v h => v = none ∧ Keep h0 h [r0] ∧ Fld Z h r0 "java/lang/String" "coder" "B" (.int (0 : Int32)) ∧ ∃ t, n0 ≤ t ∧ h0.size ≤ t ∧ Fld Z h r0 "java/lang/String" "value" "[B" (.ref t) ∧ own_Arr Z h t .byte (Int32.ofNat n) (own_cpf g 0 0 n (fun _ => 0))) := by
  refine own_met (plainFor_of_name pn_11) ?_
  intro p e s m below meth c T0 hx hby hml hown hnm hret hlk hZ A0
  rw [ef_17]
  show own_Go _ _ _ _ (T0.setTop (mkF m 0 #[.val (.ref r0), .val (.ref r1)] []))
  refine own_go (fun t_ k_ => XS.aloadN A0.here hx rfl (hb hby d17_0) rfl rfl k_) ?_
  show own_Go _ _ _ _ (T0.setTop (mkF m 1 #[.val (.ref r0), .val (.ref r1)] [(.ref r0)]))
  refine own_go (fun t_ k_ => XS.aloadN A0.here hx rfl (hb hby d17_1) rfl rfl k_) ?_
  show own_Go _ _ _ _ (T0.setTop (mkF m 2 #[.val (.ref r0), .val (.ref r1)] [(.ref r1), (.ref r0)]))
  refine own_go (fun t_ k_ => XS.aconstNull A0.here hx rfl (hb hby d17_2) k_) ?_
  show own_Go _ _ _ _ (T0.setTop (mkF m 3 #[.val (.ref r0), .val (.ref r1)] [.null, (.ref r1), (.ref r0)]))
  refine own_callI A0 hx hZ (y := (⟨"java/lang/String", "<init>", "(Ljava/lang/AbstractStringBuilder;Ljava/lang/Void;)V"⟩ : MethodName)) rfl hown (hw _ (List.mem_of_getElem? (i := 117) rfl)) (hw _ (List.mem_of_getElem? (i := 118) rfl)) (hw _ (List.mem_of_getElem? (i := 8) rfl)) (hw _ (List.mem_of_getElem? (i := 119) rfl)) (by decide) (b := r0) (argsL := [(.ref r1), .null]) (rest := []) (rm18 l Z a0 hw r0 r1 z_C v0 g n h0 n0 S_C0 hz Z0 E0 Fv0 Fc0 g0 Eb Fbv Fbc Fbn Vb Bb hn ne_r0_r1 ne_r0_v0) 0 (by decide) (by decide) rfl (by rw [hml]; rfl) (lenOf pd__Ljava_lang_AbstractStringBuilder_Ljava_lang_Void__V rfl) rfl (by show 2 * 0 + _ ≤ _; exact Nat.le_of_eq rfl) (hb hby d17_3) (by decide) (by decide) (fun v4 T1 h3 A2 hQ5 => ?_)
  obtain ⟨rfl, K6, F7, t8, gt9, nt10, F11, V12⟩ := hQ5
  have ne_r0_t8 : r0 ≠ t8 := Nat.ne_of_lt (Nat.lt_of_lt_of_le E0.lt nt10)
  have ne_r1_t8 : r1 ≠ t8 := Nat.ne_of_lt (Nat.lt_of_lt_of_le Eb.lt nt10)
  have ne_v0_t8 : v0 ≠ t8 := Nat.ne_of_lt (Nat.lt_of_lt_of_le Vb.lt nt10)
  have nw_t8 : h0.size ≤ t8 := Nat.le_trans (Keep.refl h0 [r0]).1 nt10
  have Z13 : n0 ≤ h3.size := Nat.le_trans Z0 K6.1
  have E14 : Exa Z h3 r0 "java/lang/String" := E0.keep K6
  have K15 : Keep h0 h3 [r0] := (Keep.refl h0 [r0]).trans K6 (allS (Or.inl (List.mem_of_getElem? (i := 0) rfl)) all0)
  have E16 : Exa Z h3 r1 "java/lang/StringBuilder" := Eb.keep K6
  have F17 : Fld Z h3 r1 "java/lang/AbstractStringBuilder" "value" "[B" (.ref v0) := Fbv.keep K6 (ninS (Ne.symm ne_r0_r1) nin0)
  have F18 : Fld Z h3 r1 "java/lang/AbstractStringBuilder" "coder" "B" (.int (0 : Int32)) := Fbc.keep K6 (ninS (Ne.symm ne_r0_r1) nin0)
  have F19 : Fld Z h3 r1 "java/lang/AbstractStringBuilder" "count" "I" (.int (Int32.ofNat n)) := Fbn.keep K6 (ninS (Ne.symm ne_r0_r1) nin0)
  have V20 : own_Arr Z h3 v0 .byte (16 : Int32) g := Vb.keep K6 (ninS (Ne.symm ne_r0_v0) nin0)
  show own_Go _ _ _ _ (T1.setTop (mkF m 6 #[.val (.ref r0), .val (.ref r1)] []))
  refine own_retV A2 hx hret hlk (by decide) (by decide) (hb hby d17_6) ?_
  exact ⟨rfl, K15, F7, t8, gt9, nw_t8, F11, V12⟩
theorem ef_16 (m : MethodId) (r0 : Addr) : entryFrame m #[(.ref r0)] 1 = mkF m 0 #[.val (.ref r0)] [] := by first | (simp [entryFrame, mkF, argsToLocals, Value.category]; done) | rfl
theorem d16_0 : decode jdk_67_method_42_code 0 = .ok (.new 18, 3) := by decide +kernel
theorem d16_3 : decode jdk_67_method_42_code 3 = .ok (.dup, 1) := by decide +kernel
theorem d16_4 : decode jdk_67_method_42_code 4 = .ok (.aload_n 0, 1) := by decide +kernel
theorem d16_5 : decode jdk_67_method_42_code 5 = .ok (.invokespecial 137, 3) := by decide +kernel
theorem pd__Ljava_lang_StringBuilder__V : parseMethodDescriptor "(Ljava/lang/StringBuilder;)V" = some ⟨[(.object "java/lang/StringBuilder")], none⟩ := by decide +kernel
theorem d16_8 : decode jdk_67_method_42_code 8 = .ok (.areturn, 1) := by decide +kernel
set_option maxRecDepth 65536 in
set_option maxHeartbeats 40000000 in
theorem rm16 (l : Launch) (Z : State) (a0 : Array Value) (hw : ∀ d ∈ tables_1, d.before a0 Z = true) (r0 : Addr) (z_C : Int32) (v0 : Addr) (g : Int32 → Int32) (n : Nat) (h0 : Heap) (n0 : Nat) (O0 : Old Z n0 h0) (hz : ¬ z_C = 0) (S_COMPACT_STRINGS : Sta Z Z.heap "java/lang/String" "COMPACT_STRINGS" "Z" (.int z_C)) (Z0 : n0 ≤ h0.size) (Eb : Exa Z h0 r0 "java/lang/StringBuilder") (Fbv : Fld Z h0 r0 "java/lang/AbstractStringBuilder" "value" "[B" (.ref v0)) (Fbc : Fld Z h0 r0 "java/lang/AbstractStringBuilder" "coder" "B" (.int (0 : Int32))) (Fbn : Fld Z h0 r0 "java/lang/AbstractStringBuilder" "count" "I" (.int (Int32.ofNat n))) (Vb : own_Arr Z h0 v0 .byte (16 : Int32) g) (Bb : own_Byt g 16) (hn : n < 16) :
    own_Met l Z n0 (⟨"java/lang/StringBuilder", "toString", "()Ljava/lang/String;"⟩ : MethodName) jdk_67_method_42_code 1 (some (.object "java/lang/String")) ({ frames := 5, cells := 2, slots := 20, locals := 101 } : Room) #[(.ref r0)] h0 (fun v h => Keep h0 h [] ∧ ∃ x t, v = some (.ref x) ∧ n0 ≤ x ∧ h0.size ≤ x ∧ Exa Z h x "java/lang/String" ∧ Fld Z h x "java/lang/String" "coder" "B" (.int (0 : Int32)) ∧ Fld Z h x "java/lang/String" "value" "[B" (.ref t) ∧ own_Arr Z h t .byte (Int32.ofNat n) (own_cpf g 0 0 n (fun _ => 0))) := by
  refine own_met (plainFor_of_name pn_8) ?_
  intro p e s m below meth c T0 hx hby hml hown hnm hret hlk hZ A0
  rw [ef_16]
  show own_Go _ _ _ _ (T0.setTop (mkF m 0 #[.val (.ref r0)] []))
  refine own_newO A0 hx hZ hown (hw _ (List.mem_of_getElem? (i := 112) rfl)) (hw _ (List.mem_of_getElem? (i := 9) rfl)) (hw _ (List.mem_of_getElem? (i := 8) rfl)) rfl (hb hby d16_0) (by decide) (by decide) (fun T1 h3 b4 ha_b4 A2 E5 X6 D7 => ?_)
  have ne_r0_b4 : r0 ≠ b4 := Nat.ne_of_lt (by rw [ha_b4]; exact Eb.lt)
  have ne_v0_b4 : v0 ≠ b4 := Nat.ne_of_lt (by rw [ha_b4]; exact Vb.lt)
  have g_b4 : n0 ≤ b4 := by rw [ha_b4]; exact Z0
  have nw_b4 : h0.size ≤ b4 := by rw [ha_b4]; exact (Keep.refl h0 []).1
  have O8 : Old Z n0 h3 := O0.ext E5
  have Z9 : n0 ≤ h3.size := Nat.le_trans Z0 E5.1
  have K10 : Keep h0 h3 [] := (Keep.refl h0 []).ext E5
  have E11 : Exa Z h3 r0 "java/lang/StringBuilder" := Eb.ext E5
  have F12 : Fld Z h3 r0 "java/lang/AbstractStringBuilder" "value" "[B" (.ref v0) := Fbv.ext E5
  have F13 : Fld Z h3 r0 "java/lang/AbstractStringBuilder" "coder" "B" (.int (0 : Int32)) := Fbc.ext E5
  have F14 : Fld Z h3 r0 "java/lang/AbstractStringBuilder" "count" "I" (.int (Int32.ofNat n)) := Fbn.ext E5
  have V15 : own_Arr Z h3 v0 .byte (16 : Int32) g := Vb.ext E5
  have F16 : Fld Z h3 b4 "java/lang/String" "value" "[B" .null := D7 (Or.inr (hw _ (List.mem_of_getElem? (i := 11) rfl))) (ty := (.array .byte)) (by decide)
  have F17 : Fld Z h3 b4 "java/lang/String" "coder" "B" (.int (0 : Int32)) := D7 (Or.inr (hw _ (List.mem_of_getElem? (i := 12) rfl))) (ty := .byte) (by decide)
  show own_Go _ _ _ _ (T1.setTop (mkF m 3 #[.val (.ref r0)] [(.ref b4)]))
  refine own_go (fun t_ k_ => XS.dup A2.here hx rfl (hb hby d16_3) rfl rfl k_) ?_
  show own_Go _ _ _ _ (T1.setTop (mkF m 4 #[.val (.ref r0)] [(.ref b4), (.ref b4)]))
  refine own_go (fun t_ k_ => XS.aloadN A2.here hx rfl (hb hby d16_4) rfl rfl k_) ?_
  show own_Go _ _ _ _ (T1.setTop (mkF m 5 #[.val (.ref r0)] [(.ref r0), (.ref b4), (.ref b4)]))
  refine own_callI A2 hx hZ (y := (⟨"java/lang/String", "<init>", "(Ljava/lang/StringBuilder;)V"⟩ : MethodName)) rfl hown (hw _ (List.mem_of_getElem? (i := 113) rfl)) (hw _ (List.mem_of_getElem? (i := 114) rfl)) (hw _ (List.mem_of_getElem? (i := 8) rfl)) (hw _ (List.mem_of_getElem? (i := 116) rfl)) (by decide) (b := b4) (argsL := [(.ref r0)]) (rest := [(.ref b4)]) (rm17 l Z a0 hw b4 r0 z_C v0 g n h3 n0 (S_COMPACT_STRINGS.ext O8.2) hz Z9 X6 F16 F17 g_b4 E11 F12 F13 F14 V15 Bb hn (Ne.symm ne_r0_b4) (Ne.symm ne_v0_b4)) 1 (by decide) (by decide) rfl (by rw [hml]; rfl) (lenOf pd__Ljava_lang_StringBuilder__V rfl) rfl (by show 2 * 0 + _ ≤ _; exact Nat.le_of_eq rfl) (hb hby d16_5) (by decide) (by decide) (fun v21 T18 h20 A19 hQ22 => ?_)
  obtain ⟨rfl, K23, F24, t25, gt26, nt27, F28, V29⟩ := hQ22
  have ne_r0_t25 : r0 ≠ t25 := Nat.ne_of_lt (Nat.lt_of_lt_of_le E11.lt nt27)
  have ne_v0_t25 : v0 ≠ t25 := Nat.ne_of_lt (Nat.lt_of_lt_of_le V15.lt nt27)
  have ne_b4_t25 : b4 ≠ t25 := Nat.ne_of_lt (Nat.lt_of_lt_of_le X6.lt nt27)
  have nw_t25 : h0.size ≤ t25 := Nat.le_trans K10.1 nt27
  have O30 : Old Z n0 h20 := O8.keep K23 (allS g_b4 all0)
  have Z31 : n0 ≤ h20.size := Nat.le_trans Z9 K23.1
  have K32 : Keep h0 h20 [] := K10.trans K23 (allS (Or.inr nw_b4) all0)
  have E33 : Exa Z h20 r0 "java/lang/StringBuilder" := E11.keep K23
  have F34 : Fld Z h20 r0 "java/lang/AbstractStringBuilder" "value" "[B" (.ref v0) := F12.keep K23 (ninS ne_r0_b4 nin0)
  have F35 : Fld Z h20 r0 "java/lang/AbstractStringBuilder" "coder" "B" (.int (0 : Int32)) := F13.keep K23 (ninS ne_r0_b4 nin0)
  have F36 : Fld Z h20 r0 "java/lang/AbstractStringBuilder" "count" "I" (.int (Int32.ofNat n)) := F14.keep K23 (ninS ne_r0_b4 nin0)
  have V37 : own_Arr Z h20 v0 .byte (16 : Int32) g := V15.keep K23 (ninS ne_v0_b4 nin0)
  have E38 : Exa Z h20 b4 "java/lang/String" := X6.keep K23
  show own_Go _ _ _ _ (T18.setTop (mkF m 8 #[.val (.ref r0)] [(.ref b4)]))
  refine own_retA A19 hx hret rfl hlk (by decide) (by decide) rfl (hb hby d16_8) ?_
  exact ⟨K32, b4, t25, rfl, g_b4, nw_b4, E38, F24, F28, V29⟩
theorem own_b8 (x : Int32) : x.toInt8.toInt32.toInt8.toInt32 = x.toInt8.toInt32 := by
  have h1 := c_i2b x
  have h2 := c_i2b x.toInt8.toInt32
  exact Int32.toInt_inj.mp (by omega)
theorem own_nc {x : Int32} (h : ¬ x < 0 ∧ ¬ (255 : Int32) < x) : nar .char x = x := by
  have e0 : (0 : Int32).toInt = 0 := rfl
  have e1 : (255 : Int32).toInt = 255 := rfl
  obtain ⟨h0, h1⟩ := h
  rw [Int32.lt_iff_toInt_lt] at h0 h1
  have k := c_i2c x
  have ek : nar .char x = x.toUInt32.toUInt16.toUInt32.toInt32 := rfl
  rw [ek]
  exact Int32.toInt_inj.mp (by omega)
def own_mkn (n : Nat) (a b : Int32) : List Int32 := match n with
  | 0 => []
  | 1 => [a.toInt8.toInt32]
  | _ => [a.toInt8.toInt32, b.toInt8.toInt32]
theorem own_mkn_len (n : Nat) (h : n < 3) (a b : Int32) : (own_mkn n a b).length = n := by
  rcases (by omega : n = 0 ∨ n = 1 ∨ n = 2) with rfl | rfl | rfl <;> rfl
theorem own_pre0 {f : Int32 → Int32} : own_Pre f [] := fun k hk => absurd hk (Nat.not_lt_zero _)
theorem own_pre1 {f : Int32 → Int32} {x : Int32} (h : f 0 = x) : own_Pre f [x] := fun k hk => by
  have : k = 0 := by simp at hk; omega
  subst this
  exact h
theorem own_pre2 {f : Int32 → Int32} {x y : Int32} (h : f 0 = x) (h' : f 1 = y) : own_Pre f [x, y] := fun k hk => by
  have : k = 0 ∨ k = 1 := by simp at hk; omega
  rcases this with rfl | rfl
  · exact h
  · exact h'
theorem own_byt1 {f : Int32 → Int32} {x : Int32} (h : f 0 = x.toInt8.toInt32) : own_Byt f 1 := fun k hk => by
  have : k = 0 := by omega
  subst this
  show fits .byte (.int (f 0)) = true
  rw [h]
  exact fits_nar_byte x
theorem own_byt2 {f : Int32 → Int32} {x y : Int32} (h : f 0 = x.toInt8.toInt32) (h' : f 1 = y.toInt8.toInt32) : own_Byt f 2 := fun k hk => by
  have : k = 0 ∨ k = 1 := by omega
  rcases this with rfl | rfl
  · show fits .byte (.int (f 0)) = true
    rw [h]; exact fits_nar_byte x
  · show fits .byte (.int (f 1)) = true
    rw [h']; exact fits_nar_byte y
theorem own_hp2 {p1 p2 : Int32} (h1 : ¬ p1 < 0 ∧ ¬ (255 : Int32) < p1) (h2 : ¬ p2 < 0 ∧ ¬ (255 : Int32) < p2) : ∀ k, k < 2 → ¬ (fun i => if i = (1 : Int32) then nar .char p2 else (fun i => if i = (0 : Int32) then nar .char p1 else (fun _ => 0) i) i) (Int32.ofNat k) < 0 ∧ ¬ (255 : Int32) < (fun i => if i = (1 : Int32) then nar .char p2 else (fun i => if i = (0 : Int32) then nar .char p1 else (fun _ => 0) i) i) (Int32.ofNat k) := by
  intro k hk
  rcases (by omega : k = 0 ∨ k = 1) with rfl | rfl
  · show ¬ nar .char p1 < 0 ∧ ¬ (255 : Int32) < nar .char p1
    rw [own_nc h1]; exact h1
  · show ¬ nar .char p2 < 0 ∧ ¬ (255 : Int32) < nar .char p2
    rw [own_nc h2]; exact h2
theorem own_neE {Z : State} {a0 : Array Value} {h : Heap} {t x : Addr} {n k : Nat} {f : Int32 → Int32} {C : String} (V : own_Arr Z h t .byte (Int32.ofNat n) f) (hn : n < 2 ^ 31) (B : own_Byt f n) (E : Exa Z h x C) (w : (Cond.instantiable C k).before a0 Z = true) : t ≠ x := by
  obtain ⟨kk, A⟩ := V.arv hn B
  exact fun e => Exa.neArv E A w e.symm
def own_zs (xs ys zs : List Int32) : List Int32 := (((([] ++ xs) ++ [32]) ++ ys) ++ [58, 32]) ++ zs
theorem own_mod3 (x : Int32) : ∃ n : Nat, n < 3 ∧ ((x.toUInt32 >>> ((16 : Int32) &&& 31).toUInt32).toInt32) % (3 : Int32) = Int32.ofNat n := by
  have u := c_iushr x 16 16 (by decide) (by decide)
  generalize (x.toUInt32 >>> ((16 : Int32) &&& 31).toUInt32).toInt32 = y at u ⊢
  have r := (c_irem y 3 3 rfl).1 (by omega)
  refine ⟨(y % (3 : Int32)).toInt.toNat, by omega, Int32.toInt_inj.mp ?_⟩
  rw [own_nI (by omega)]
  omega
theorem own_ch255 (x : Int32) : ∃ z : Int32, (¬ z < 0 ∧ ¬ (255 : Int32) < z) ∧ ((x &&& (255 : Int32)).toUInt32.toUInt16.toUInt32.toInt32) = z := by
  refine ⟨x &&& 255, ?_, Jvm.RoadKit.i2c_mask x⟩
  have h := c_and x 255 (by decide)
  have e : (255 : Int32).toInt = 255 := rfl
  have e0 : (0 : Int32).toInt = 0 := rfl
  rw [Int32.lt_iff_toInt_lt, Int32.lt_iff_toInt_lt]
  omega
/-- a byte read back as a char -/
theorem own_back {x : Int32} (h : ¬ x < 0 ∧ ¬ (255 : Int32) < x) : nar .char (nar .char ((x.toInt8.toInt32 &&& (255 : Int32)).toUInt32.toUInt16.toUInt32.toInt32)) = x := by
  have e0 : (0 : Int32).toInt = 0 := rfl
  have e1 : (255 : Int32).toInt = 255 := rfl
  have b := c_i2b x
  have k : (x.toInt8.toInt32 &&& (255 : Int32)).toInt = x.toInt8.toInt32.toInt % 256 := c_mask x.toInt8.toInt32 255 8 (by decide) rfl
  have e : x.toInt8.toInt32 &&& (255 : Int32) = x := by
    obtain ⟨h0, h1⟩ := h
    rw [Int32.lt_iff_toInt_lt] at h0 h1
    exact Int32.toInt_inj.mp (by omega)
  have ek : nar .char x = x.toUInt32.toUInt16.toUInt32.toInt32 := rfl
  rw [e, ← ek, own_nc h, own_nc h, own_nc h]
theorem own_zlen (n1 n2 n3 : Nat) (h1 : n1 < 3) (h2 : n2 < 3) (h3 : n3 < 3) (a b c d e f : Int32) : (own_zs (own_mkn n1 a b) (own_mkn n2 c d) (own_mkn n3 e f)).length = n1 + n2 + n3 + 3 := by
  unfold own_zs
  simp only [List.length_append, own_mkn_len _ h1, own_mkn_len _ h2, own_mkn_len _ h3, List.length_nil, List.length_cons]
  omega
theorem own_lenlaw (n1 n2 n3 : Nat) (h1 : n1 < 3) (h2 : n2 < 3) (h3 : n3 < 3) (a b c d e f : Int32) : Int32.ofNat (own_zs (own_mkn n1 a b) (own_mkn n2 c d) (own_mkn n3 e f)).length = ((Int32.ofNat n1 + Int32.ofNat n2) + Int32.ofNat n3) + (3 : Int32) := by
  rw [own_zlen n1 n2 n3 h1 h2 h3, own_nadd, own_nadd]
  exact (own_nadd _ 3).symm
theorem own_zadd (n : Nat) : (0 : Int32) + Int32.ofNat n = Int32.ofNat n := Int32.zero_add _
theorem own_add2 (n : Nat) : Int32.ofNat n + (2 : Int32) = Int32.ofNat (n + 2) := own_nadd n 2
theorem own_get (n1 n2 n3 : Nat) (h1 : n1 < 3) (h2 : n2 < 3) (h3 : n3 < 3) (a b c d e f : Int32) :
    (0 < n1 → (own_zs (own_mkn n1 a b) (own_mkn n2 c d) (own_mkn n3 e f)).getD 0 0 = a.toInt8.toInt32) ∧ (1 < n1 → (own_zs (own_mkn n1 a b) (own_mkn n2 c d) (own_mkn n3 e f)).getD 1 0 = b.toInt8.toInt32) ∧
    (own_zs (own_mkn n1 a b) (own_mkn n2 c d) (own_mkn n3 e f)).getD n1 0 = 32 ∧ (0 < n2 → (own_zs (own_mkn n1 a b) (own_mkn n2 c d) (own_mkn n3 e f)).getD (n1 + 1) 0 = c.toInt8.toInt32) ∧ (1 < n2 → (own_zs (own_mkn n1 a b) (own_mkn n2 c d) (own_mkn n3 e f)).getD (n1 + 1 + 1) 0 = d.toInt8.toInt32) ∧
    (own_zs (own_mkn n1 a b) (own_mkn n2 c d) (own_mkn n3 e f)).getD (n1 + 1 + n2) 0 = 58 ∧ (own_zs (own_mkn n1 a b) (own_mkn n2 c d) (own_mkn n3 e f)).getD (n1 + 1 + n2 + 1) 0 = 32 ∧
    (0 < n3 → (own_zs (own_mkn n1 a b) (own_mkn n2 c d) (own_mkn n3 e f)).getD (n1 + 1 + n2 + 2) 0 = e.toInt8.toInt32) ∧ (1 < n3 → (own_zs (own_mkn n1 a b) (own_mkn n2 c d) (own_mkn n3 e f)).getD (n1 + 1 + n2 + 2 + 1) 0 = f.toInt8.toInt32) := by
  rcases (by omega : n1 = 0 ∨ n1 = 1 ∨ n1 = 2) with rfl | rfl | rfl <;> rcases (by omega : n2 = 0 ∨ n2 = 1 ∨ n2 = 2) with rfl | rfl | rfl <;> rcases (by omega : n3 = 0 ∨ n3 = 1 ∨ n3 = 2) with rfl | rfl | rfl <;>
    refine ⟨fun z => ?_, fun z => ?_, rfl, fun z => ?_, fun z => ?_, rfl, rfl, fun z => ?_, fun z => ?_⟩ <;> first | rfl | (exfalso; omega)
theorem ef_34 (m : MethodId) (p0 : Int32) : entryFrame m #[(.int p0)] 1 = mkF m 0 #[.val (.int p0)] [] := by first | (simp [entryFrame, mkF, argsToLocals, Value.category]; done) | rfl
theorem pn_34 : plainName "java/lang/StringLatin1" = true := by first | (simp [plainName, overriddenIn]; done) | decide +kernel
theorem d34_0 : decode jdk_43_method_3_code 0 = .ok (.iload_n 0, 1) := by decide +kernel
theorem d34_1 : decode jdk_43_method_3_code 1 = .ok (.sipush 255, 3) := by decide +kernel
theorem d34_4 : decode jdk_43_method_3_code 4 = .ok (.if_icmp .gt 7, 3) := by decide +kernel
theorem d34_11 : decode jdk_43_method_3_code 11 = .ok (.iconst 0, 1) := by decide +kernel
theorem d34_7 : decode jdk_43_method_3_code 7 = .ok (.iconst 1, 1) := by decide +kernel
theorem d34_8 : decode jdk_43_method_3_code 8 = .ok (.goto 4, 3) := by decide +kernel
theorem d34_12 : decode jdk_43_method_3_code 12 = .ok (.ireturn, 1) := by decide +kernel
def f34 (p0 : Int32) : Int32 := (nar .boolean (if (255 : Int32) < p0 then (0 : Int32) else (1 : Int32)))
set_option maxRecDepth 65536 in
set_option maxHeartbeats 40000000 in
theorem rm34 (l : Launch) (Z : State) (a0 : Array Value) (hw : ∀ d ∈ tables_1, d.before a0 Z = true) (p0 : Int32) (h0 : Heap) (n0 : Nat) :
    own_Met l Z n0 (⟨"java/lang/StringLatin1", "canEncode", "(C)Z"⟩ : MethodName) jdk_43_method_3_code 1 (some .boolean) ({ frames := 0, cells := 0, slots := 0, locals := 0 } : Room) #[(.int p0)] h0 (fun v h => v = some (.int (f34 p0)) ∧ h0 = h) := by
  refine own_met (plainFor_of_name pn_34) ?_
  intro p e s m below meth c T0 hx hby hml hown hnm hret hlk hZ A0
  rw [ef_34]
  show own_Go _ _ _ _ (T0.setTop (mkF m 0 #[.val (.int p0)] []))
  refine own_go (fun t_ k_ => XS.iloadN A0.here hx rfl (hb hby d34_0) rfl k_) ?_
  show own_Go _ _ _ _ (T0.setTop (mkF m 1 #[.val (.int p0)] [(.int p0)]))
  refine own_go (fun t_ k_ => XS.sipush A0.here hx rfl (hb hby d34_1) k_) ?_
  show own_Go _ _ _ _ (T0.setTop (mkF m 4 #[.val (.int p0)] [(.int (255 : Int32)), (.int p0)]))
  have mg1 : ∀ t_, Steps p.tables e below (T0.setTop (mkF m 12 #[.val (.int p0)] [(.int (if (255 : Int32) < p0 then (0 : Int32) else (1 : Int32)))])) t_ → Steps p.tables e below (T0.setTop (mkF m 4 #[.val (.int p0)] [(.int (255 : Int32)), (.int p0)])) t_ := by
    intro t_ k_
    by_cases hm4_0 : (255 : Int32) < p0
    ·
      simp only [if_pos hm4_0] at k_
      exact (XS.icmpYes A0.here hx rfl (pc0 := 4) (pc' := 11) rfl (hb hby d34_4) rfl (tlt hm4_0).2.2.1 (by decide) (by decide) (XS.iconst A0.here hx rfl (hb hby d34_11) k_))
    ·
      simp only [if_neg hm4_0] at k_
      exact (XS.icmpNo A0.here hx rfl (hb hby d34_4) rfl (flt hm4_0).2.2.1 (XS.iconst A0.here hx rfl (hb hby d34_7) (XS.goto A0.here hx rfl (pc0 := 8) (pc' := 12) rfl (hb hby d34_8) (by decide) (by decide) k_)))
  refine own_go mg1 ?_
  show own_Go _ _ _ _ (T0.setTop (mkF m 12 #[.val (.int p0)] [(.int (if (255 : Int32) < p0 then (0 : Int32) else (1 : Int32)))]))
  refine own_retN A0 hx (t := .boolean) hret (by simp) hlk (by decide) (by decide) (hb hby d34_12) ?_
  exact ⟨rfl, rfl⟩
theorem own_can {p : Int32} (h : ¬ p < 0 ∧ ¬ (255 : Int32) < p) : ¬ f34 p = 0 := by
  unfold f34
  first | (rw [if_neg h.2]; decide) | (simp [h.2]; decide) | (simp [h.2])
theorem ef_35 (m : MethodId) (p0 : Int32) : entryFrame m #[(.int p0)] 1 = mkF m 0 #[.val (.int p0)] [] := by first | (simp [entryFrame, mkF, argsToLocals, Value.category]; done) | rfl
theorem d35_0 : decode jdk_43_method_46_code 0 = .ok (.iconst 1, 1) := by decide +kernel
theorem d35_1 : decode jdk_43_method_46_code 1 = .ok (.newarray .byte, 2) := by decide +kernel
theorem d35_3 : decode jdk_43_method_46_code 3 = .ok (.dup, 1) := by decide +kernel
theorem d35_4 : decode jdk_43_method_46_code 4 = .ok (.iconst 0, 1) := by decide +kernel
theorem d35_5 : decode jdk_43_method_46_code 5 = .ok (.iload_n 0, 1) := by decide +kernel
theorem d35_6 : decode jdk_43_method_46_code 6 = .ok (.i2b, 1) := by decide +kernel
theorem d35_7 : decode jdk_43_method_46_code 7 = .ok (.bastore, 1) := by decide +kernel
theorem d35_8 : decode jdk_43_method_46_code 8 = .ok (.areturn, 1) := by decide +kernel
set_option maxRecDepth 65536 in
set_option maxHeartbeats 40000000 in
theorem rm35 (l : Launch) (Z : State) (a0 : Array Value) (hw : ∀ d ∈ tables_1, d.before a0 Z = true) (p0 : Int32) (h0 : Heap) (n0 : Nat) (Z0 : n0 ≤ h0.size) :
    own_Met l Z n0 (⟨"java/lang/StringLatin1", "toBytes", "(C)[B"⟩ : MethodName) jdk_43_method_46_code 1 (some (.array .byte)) ({ frames := 0, cells := 1, slots := 1, locals := 0 } : Room) #[(.int p0)] h0 (fun v h => Keep h0 h [] ∧ ∃ t, v = some (.ref t) ∧ n0 ≤ t ∧ h0.size ≤ t ∧ own_Arr Z h t .byte (1 : Int32) (fun i => if i = (0 : Int32) then nar .byte (p0.toInt8.toInt32) else (fun _ => 0) i)) := by
  refine own_met (plainFor_of_name pn_34) ?_
  intro p e s m below meth c T0 hx hby hml hown hnm hret hlk hZ A0
  rw [ef_35]
  show own_Go _ _ _ _ (T0.setTop (mkF m 0 #[.val (.int p0)] []))
  refine own_go (fun t_ k_ => XS.iconst A0.here hx rfl (hb hby d35_0) k_) ?_
  show own_Go _ _ _ _ (T0.setTop (mkF m 1 #[.val (.int p0)] [(.int (1 : Int32))]))
  refine own_newP A0 hx hZ (hw _ (List.mem_of_getElem? (i := 10) rfl)) rfl rfl (hb hby d35_1) rfl (by decide) 1 (by decide) (by decide) (by decide) (by decide) (fun T1 h3 b4 ha_b4 A2 E5 V6 R7 => ?_)
  have g_b4 : n0 ≤ b4 := by rw [ha_b4]; exact Z0
  have nw_b4 : h0.size ≤ b4 := by rw [ha_b4]; exact (Keep.refl h0 []).1
  have Z8 : n0 ≤ h3.size := Nat.le_trans Z0 E5.1
  have K9 : Keep h0 h3 [] := (Keep.refl h0 []).ext E5
  show own_Go _ _ _ _ (T1.setTop (mkF m 3 #[.val (.int p0)] [(.ref b4)]))
  refine own_go (fun t_ k_ => XS.dup A2.here hx rfl (hb hby d35_3) rfl rfl k_) ?_
  show own_Go _ _ _ _ (T1.setTop (mkF m 4 #[.val (.int p0)] [(.ref b4), (.ref b4)]))
  refine own_go (fun t_ k_ => XS.iconst A2.here hx rfl (hb hby d35_4) k_) ?_
  show own_Go _ _ _ _ (T1.setTop (mkF m 5 #[.val (.int p0)] [(.int (0 : Int32)), (.ref b4), (.ref b4)]))
  refine own_go (fun t_ k_ => XS.iloadN A2.here hx rfl (hb hby d35_5) rfl k_) ?_
  show own_Go _ _ _ _ (T1.setTop (mkF m 6 #[.val (.int p0)] [(.int p0), (.int (0 : Int32)), (.ref b4), (.ref b4)]))
  refine own_go (fun t_ k_ => XS.i2b A2.here hx rfl (hb hby d35_6) rfl k_) ?_
  show own_Go _ _ _ _ (T1.setTop (mkF m 7 #[.val (.int p0)] [(.int (p0.toInt8.toInt32)), (.int (0 : Int32)), (.ref b4), (.ref b4)]))
  refine own_stB A2 hx hZ V6 ⟨by decide, by decide⟩ g_b4 rfl rfl (hb hby d35_7) (fun T10 h12 A11 W13 V14 => ?_)
  have Z15 : n0 ≤ h12.size := Nat.le_trans Z8 (Nat.le_of_eq (Wr.size W13).symm)
  have K16 : Keep h0 h12 [] := K9.wr W13 (Or.inr nw_b4)
  have V17 : own_Arr Z h12 b4 .byte (1 : Int32) (fun i => if i = (0 : Int32) then nar .byte (p0.toInt8.toInt32) else (fun _ => 0) i) := V14
  show own_Go _ _ _ _ (T10.setTop (mkF m 8 #[.val (.int p0)] [(.ref b4)]))
  refine own_retA A11 hx hret rfl hlk (by decide) (by decide) rfl (hb hby d35_8) ?_
  exact ⟨K16, b4, rfl, g_b4, nw_b4, V17⟩
theorem ef_36 (m : MethodId) (r0 : Addr) (r1 : Addr) (y2 : Int32) : entryFrame m #[(.ref r0), (.ref r1), (.int y2)] 3 = mkF m 0 #[.val (.ref r0), .val (.ref r1), .val (.int y2)] [] := by first | (simp [entryFrame, mkF, argsToLocals, Value.category]; done) | rfl
theorem d36_0 : decode jdk_42_method_151_code 0 = .ok (.aload_n 0, 1) := by decide +kernel
theorem d36_1 : decode jdk_42_method_151_code 1 = .ok (.invokespecial 1, 3) := by decide +kernel
theorem d36_4 : decode jdk_42_method_151_code 4 = .ok (.aload_n 0, 1) := by decide +kernel
theorem d36_5 : decode jdk_42_method_151_code 5 = .ok (.aload_n 1, 1) := by decide +kernel
theorem d36_6 : decode jdk_42_method_151_code 6 = .ok (.putfield 9, 3) := by decide +kernel
theorem d36_9 : decode jdk_42_method_151_code 9 = .ok (.aload_n 0, 1) := by decide +kernel
theorem d36_10 : decode jdk_42_method_151_code 10 = .ok (.iload_n 2, 1) := by decide +kernel
theorem d36_11 : decode jdk_42_method_151_code 11 = .ok (.putfield 15, 3) := by decide +kernel
theorem d36_14 : decode jdk_42_method_151_code 14 = .ok (.return_, 1) := by decide +kernel
set_option maxRecDepth 65536 in
set_option maxHeartbeats 40000000 in
theorem rm36 (l : Launch) (Z : State) (a0 : Array Value) (hw : ∀ d ∈ tables_1, d.before a0 Z = true) (r0 : Addr) (r1 : Addr) (h0 : Heap) (n0 : Nat) (E0 : Exa Z h0 r0 "java/lang/String") (Fv0 : Fld Z h0 r0 "java/lang/String" "value" "[B" .null) (Fc0 : Fld Z h0 r0 "java/lang/String" "coder" "B" (.int (0 : Int32))) (g0 : n0 ≤ r0) :
    own_Met l Z n0 (⟨"java/lang/String", "<init>", "([BB)V"⟩ : MethodName) jdk_42_method_151_code 3 none ({ frames := 1, cells := 0, slots := 0, locals := 12 } : Room) #[(.ref r0), (.ref r1), (.int (0 : Int32))] h0 (fun v h => v = none ∧ Keep h0 h [r0] ∧ Fld Z h r0 "java/lang/String" "coder" "B" (.int (0 : Int32)) ∧ Fld Z h r0 "java/lang/String" "value" "[B" (.ref r1)) := by
  refine own_met (plainFor_of_name pn_11) ?_
  intro p e s m below meth c T0 hx hby hml hown hnm hret hlk hZ A0
  rw [ef_36]
  show own_Go _ _ _ _ (T0.setTop (mkF m 0 #[.val (.ref r0), .val (.ref r1), .val (.int (0 : Int32))] []))
  refine own_go (fun t_ k_ => XS.aloadN A0.here hx rfl (hb hby d36_0) rfl rfl k_) ?_
  show own_Go _ _ _ _ (T0.setTop (mkF m 1 #[.val (.ref r0), .val (.ref r1), .val (.int (0 : Int32))] [(.ref r0)]))
  refine own_initO A0 hx hZ hown (hw _ (List.mem_of_getElem? (i := 120) rfl)) (hw _ (List.mem_of_getElem? (i := 24) rfl)) (hw _ (List.mem_of_getElem? (i := 25) rfl)) rfl (by rw [hml]; rfl) rfl (hb hby d36_1) (by decide) 0 (by show 2 * 0 + _ ≤ _; exact Nat.le_of_eq rfl) (by decide) (fun T1 A2 => ?_)
  show own_Go _ _ _ _ (T1.setTop (mkF m 4 #[.val (.ref r0), .val (.ref r1), .val (.int (0 : Int32))] []))
  refine own_go (fun t_ k_ => XS.aloadN A2.here hx rfl (hb hby d36_4) rfl rfl k_) ?_
  show own_Go _ _ _ _ (T1.setTop (mkF m 5 #[.val (.ref r0), .val (.ref r1), .val (.int (0 : Int32))] [(.ref r0)]))
  refine own_go (fun t_ k_ => XS.aloadN A2.here hx rfl (hb hby d36_5) rfl rfl k_) ?_
  show own_Go _ _ _ _ (T1.setTop (mkF m 6 #[.val (.ref r0), .val (.ref r1), .val (.int (0 : Int32))] [(.ref r1), (.ref r0)]))
  refine own_putF A2 hx hZ hown (host := "") (Or.inl (hw _ (List.mem_of_getElem? (i := 70) rfl))) Via.refl Fv0 E0 (Or.inr ⟨(hw _ (List.mem_of_getElem? (i := 11) rfl)), rfl, hnm⟩) (hw _ (List.mem_of_getElem? (i := 9) rfl)) (ty := (.array .byte)) (by decide) rfl rfl g0 rfl rfl (hb hby d36_6) (fun T3 h5 A4 W6 => ?_)
  have E7 : Exa Z h5 r0 "java/lang/String" := E0.wr W6
  have F8 : Fld Z h5 r0 "java/lang/String" "value" "[B" (.ref r1) := Fv0.same W6
  have F9 : Fld Z h5 r0 "java/lang/String" "coder" "B" (.int (0 : Int32)) := Fc0.other W6 (Or.inr (slot_ne (Or.inr (hw _ (List.mem_of_getElem? (i := 12) rfl))) (Or.inr (hw _ (List.mem_of_getElem? (i := 11) rfl))) (by decide) (t := .byte) (t' := (.array .byte)) (by decide) (by decide)))
  have K10 : Keep h0 h5 [r0] := (Keep.refl h0 [r0]).wr W6 (Or.inl (List.mem_of_getElem? (i := 0) rfl))
  show own_Go _ _ _ _ (T3.setTop (mkF m 9 #[.val (.ref r0), .val (.ref r1), .val (.int (0 : Int32))] []))
  refine own_go (fun t_ k_ => XS.aloadN A4.here hx rfl (hb hby d36_9) rfl rfl k_) ?_
  show own_Go _ _ _ _ (T3.setTop (mkF m 10 #[.val (.ref r0), .val (.ref r1), .val (.int (0 : Int32))] [(.ref r0)]))
  refine own_go (fun t_ k_ => XS.iloadN A4.here hx rfl (hb hby d36_10) rfl k_) ?_
  show own_Go _ _ _ _ (T3.setTop (mkF m 11 #[.val (.ref r0), .val (.ref r1), .val (.int (0 : Int32))] [(.int (0 : Int32)), (.ref r0)]))
  refine own_putF A4 hx hZ hown (host := "") (Or.inl (hw _ (List.mem_of_getElem? (i := 77) rfl))) Via.refl F9 E7 (Or.inr ⟨(hw _ (List.mem_of_getElem? (i := 12) rfl)), rfl, hnm⟩) (hw _ (List.mem_of_getElem? (i := 9) rfl)) (ty := .byte) (by decide) rfl rfl g0 rfl rfl (hb hby d36_11) (fun T11 h13 A12 W14 => ?_)
  have E15 : Exa Z h13 r0 "java/lang/String" := E7.wr W14
  have F16 : Fld Z h13 r0 "java/lang/String" "value" "[B" (.ref r1) := F8.other W14 (Or.inr (slot_ne (Or.inr (hw _ (List.mem_of_getElem? (i := 11) rfl))) (Or.inr (hw _ (List.mem_of_getElem? (i := 12) rfl))) (by decide) (t := (.array .byte)) (t' := .byte) (by decide) (by decide)))
  have F17 : Fld Z h13 r0 "java/lang/String" "coder" "B" (.int (0 : Int32)) := F9.same W14
  have K18 : Keep h0 h13 [r0] := K10.wr W14 (Or.inl (List.mem_of_getElem? (i := 0) rfl))
  show own_Go _ _ _ _ (T11.setTop (mkF m 14 #[.val (.ref r0), .val (.ref r1), .val (.int (0 : Int32))] []))
  refine own_retV A12 hx hret hlk (by decide) (by decide) (hb hby d36_14) ?_
  exact ⟨rfl, K18, F17, F16⟩
theorem ef_33 (m : MethodId) (p0 : Int32) : entryFrame m #[(.int p0)] 1 = mkF m 0 #[.val (.int p0)] [] := by first | (simp [entryFrame, mkF, argsToLocals, Value.category]; done) | rfl
theorem d33_0 : decode jdk_42_method_139_code 0 = .ok (.getstatic 38, 3) := by decide +kernel
theorem d33_3 : decode jdk_42_method_139_code 3 = .ok (.ifCond .eq 23, 3) := by decide +kernel
theorem d33_6 : decode jdk_42_method_139_code 6 = .ok (.iload_n 0, 1) := by decide +kernel
theorem d33_7 : decode jdk_42_method_139_code 7 = .ok (.invokestatic 1015, 3) := by decide +kernel
theorem pd__C_Z : parseMethodDescriptor "(C)Z" = some ⟨[.char], some .boolean⟩ := by decide +kernel
theorem d33_10 : decode jdk_42_method_139_code 10 = .ok (.ifCond .eq 16, 3) := by decide +kernel
theorem d33_13 : decode jdk_42_method_139_code 13 = .ok (.new 10, 3) := by decide +kernel
theorem d33_16 : decode jdk_42_method_139_code 16 = .ok (.dup, 1) := by decide +kernel
theorem d33_17 : decode jdk_42_method_139_code 17 = .ok (.iload_n 0, 1) := by decide +kernel
theorem d33_18 : decode jdk_42_method_139_code 18 = .ok (.invokestatic 1018, 3) := by decide +kernel
theorem pd__C__B : parseMethodDescriptor "(C)[B" = some ⟨[.char], some (.array .byte)⟩ := by decide +kernel
theorem d33_21 : decode jdk_42_method_139_code 21 = .ok (.iconst 0, 1) := by decide +kernel
theorem d33_22 : decode jdk_42_method_139_code 22 = .ok (.invokespecial 209, 3) := by decide +kernel
theorem pd___BB_V : parseMethodDescriptor "([BB)V" = some ⟨[(.array .byte), .byte], none⟩ := by decide +kernel
theorem d33_25 : decode jdk_42_method_139_code 25 = .ok (.areturn, 1) := by decide +kernel
set_option maxRecDepth 65536 in
set_option maxHeartbeats 40000000 in
theorem rm33 (l : Launch) (Z : State) (a0 : Array Value) (hw : ∀ d ∈ tables_1, d.before a0 Z = true) (p0 : Int32) (z_C : Int32) (h0 : Heap) (n0 : Nat) (S_C0 : Sta Z h0 "java/lang/String" "COMPACT_STRINGS" "Z" (.int z_C)) (hz : ¬ z_C = 0) (Z0 : n0 ≤ h0.size) (hp : ¬ p0 < 0 ∧ ¬ (255 : Int32) < p0) :
    own_Met l Z n0 (⟨"java/lang/String", "valueOf", "(C)Ljava/lang/String;"⟩ : MethodName) jdk_42_method_139_code 1 (some (.object "java/lang/String")) ({ frames := 2, cells := 2, slots := 5, locals := 27 } : Room) #[(.int p0)] h0 (fun v h => Keep h0 h [] ∧ ∃ x t, v = some (.ref x) ∧ n0 ≤ x ∧ h0.size ≤ x ∧ n0 ≤ t ∧ h0.size ≤ t ∧ Exa Z h x "java/lang/String" ∧ Fld Z h x "java/lang/String" "coder" "B" (.int (0 : Int32)) ∧ Fld Z h x "java/lang/String" "value" "[B" (.ref t) ∧ own_Arr Z h t .byte (1 : Int32) (fun i => if i = (0 : Int32) then nar .byte (p0.toInt8.toInt32) else (fun _ => 0) i)) := by
  refine own_met (plainFor_of_name pn_11) ?_
  intro p e s m below meth c T0 hx hby hml hown hnm hret hlk hZ A0
  rw [ef_33]
  show own_Go _ _ _ _ (T0.setTop (mkF m 0 #[.val (.int p0)] []))
  refine own_getS A0 hx hZ hown (host := "") (Or.inl (hw _ (List.mem_of_getElem? (i := 76) rfl))) Via.refl S_C0 rfl (hb hby d33_0) (fun T1 A2 => ?_)
  show own_Go _ _ _ _ (T1.setTop (mkF m 3 #[.val (.int p0)] [(.int z_C)]))
  have hc3 : ¬ (z_C = (0 : Int32)) := hz
  refine own_go (fun t_ k_ => XS.ifNo A2.here hx rfl (hb hby d33_3) rfl ((if0 _ _).trans (feq hc3).1) k_) ?_
  show own_Go _ _ _ _ (T1.setTop (mkF m 6 #[.val (.int p0)] []))
  refine own_go (fun t_ k_ => XS.iloadN A2.here hx rfl (hb hby d33_6) rfl k_) ?_
  show own_Go _ _ _ _ (T1.setTop (mkF m 7 #[.val (.int p0)] [(.int p0)]))
  refine own_callS A2 hx hZ hown (y := (⟨"java/lang/StringLatin1", "canEncode", "(C)Z"⟩ : MethodName)) (hw _ (List.mem_of_getElem? (i := 183) rfl)) (hw _ (List.mem_of_getElem? (i := 184) rfl)) (hw _ (List.mem_of_getElem? (i := 170) rfl)) (hw _ (List.mem_of_getElem? (i := 185) rfl)) (by decide) (argsL := [(.int p0)]) (rest := []) (rm34 l Z a0 hw p0 h0 n0 ) 0 (by decide) (by decide) rfl (by rw [hml]; rfl) (lenOf pd__C_Z rfl) rfl (by show 2 * 0 + _ ≤ _; exact Nat.le_of_eq rfl) (hb hby d33_7) (by decide) (by decide) (fun v7 T4 h6 A5 hQ8 => ?_)
  obtain ⟨rfl, rfl⟩ := hQ8
  show own_Go _ _ _ _ (T4.setTop (mkF m 10 #[.val (.int p0)] [(.int (f34 p0))]))
  have hc9 : ¬ ((f34 p0) = (0 : Int32)) := own_can hp
  refine own_go (fun t_ k_ => XS.ifNo A5.here hx rfl (hb hby d33_10) rfl ((if0 _ _).trans (feq hc9).1) k_) ?_
  show own_Go _ _ _ _ (T4.setTop (mkF m 13 #[.val (.int p0)] []))
  refine own_newO A5 hx hZ hown (hw _ (List.mem_of_getElem? (i := 186) rfl)) (hw _ (List.mem_of_getElem? (i := 9) rfl)) (hw _ (List.mem_of_getElem? (i := 8) rfl)) rfl (hb hby d33_13) (by decide) (by decide) (fun T10 h12 b13 ha_b13 A11 E14 X15 D16 => ?_)
  have g_b13 : n0 ≤ b13 := by rw [ha_b13]; exact Z0
  have nw_b13 : h0.size ≤ b13 := by rw [ha_b13]; exact (Keep.refl h0 []).1
  have Z17 : n0 ≤ h12.size := Nat.le_trans Z0 E14.1
  have K18 : Keep h0 h12 [] := (Keep.refl h0 []).ext E14
  have F19 : Fld Z h12 b13 "java/lang/String" "value" "[B" .null := D16 (Or.inr (hw _ (List.mem_of_getElem? (i := 11) rfl))) (ty := (.array .byte)) (by decide)
  have F20 : Fld Z h12 b13 "java/lang/String" "coder" "B" (.int (0 : Int32)) := D16 (Or.inr (hw _ (List.mem_of_getElem? (i := 12) rfl))) (ty := .byte) (by decide)
  show own_Go _ _ _ _ (T10.setTop (mkF m 16 #[.val (.int p0)] [(.ref b13)]))
  refine own_go (fun t_ k_ => XS.dup A11.here hx rfl (hb hby d33_16) rfl rfl k_) ?_
  show own_Go _ _ _ _ (T10.setTop (mkF m 17 #[.val (.int p0)] [(.ref b13), (.ref b13)]))
  refine own_go (fun t_ k_ => XS.iloadN A11.here hx rfl (hb hby d33_17) rfl k_) ?_
  show own_Go _ _ _ _ (T10.setTop (mkF m 18 #[.val (.int p0)] [(.int p0), (.ref b13), (.ref b13)]))
  refine own_callS A11 hx hZ hown (y := (⟨"java/lang/StringLatin1", "toBytes", "(C)[B"⟩ : MethodName)) (hw _ (List.mem_of_getElem? (i := 187) rfl)) (hw _ (List.mem_of_getElem? (i := 188) rfl)) (hw _ (List.mem_of_getElem? (i := 170) rfl)) (hw _ (List.mem_of_getElem? (i := 189) rfl)) (by decide) (argsL := [(.int p0)]) (rest := [(.ref b13), (.ref b13)]) (rm35 l Z a0 hw p0 h12 n0 Z17) 2 (by decide) (by decide) rfl (by rw [hml]; rfl) (lenOf pd__C__B rfl) rfl (by show 2 * 0 + _ ≤ _; exact Nat.le_of_eq rfl) (hb hby d33_18) (by decide) (by decide) (fun v24 T21 h23 A22 hQ25 => ?_)
  obtain ⟨K26, t27, rfl, gt28, nt29, V30⟩ := hQ25
  have ne_b13_t27 : b13 ≠ t27 := Nat.ne_of_lt (Nat.lt_of_lt_of_le X15.lt nt29)
  have nw_t27 : h0.size ≤ t27 := Nat.le_trans K18.1 nt29
  have Z31 : n0 ≤ h23.size := Nat.le_trans Z17 K26.1
  have K32 : Keep h0 h23 [] := K18.trans K26 all0
  have E33 : Exa Z h23 b13 "java/lang/String" := X15.keep K26
  have F34 : Fld Z h23 b13 "java/lang/String" "value" "[B" .null := F19.keep K26 nin0
  have F35 : Fld Z h23 b13 "java/lang/String" "coder" "B" (.int (0 : Int32)) := F20.keep K26 nin0
  show own_Go _ _ _ _ (T21.setTop (mkF m 21 #[.val (.int p0)] [(.ref t27), (.ref b13), (.ref b13)]))
  refine own_go (fun t_ k_ => XS.iconst A22.here hx rfl (hb hby d33_21) k_) ?_
  show own_Go _ _ _ _ (T21.setTop (mkF m 22 #[.val (.int p0)] [(.int (0 : Int32)), (.ref t27), (.ref b13), (.ref b13)]))
  refine own_callI A22 hx hZ (y := (⟨"java/lang/String", "<init>", "([BB)V"⟩ : MethodName)) rfl hown (hw _ (List.mem_of_getElem? (i := 190) rfl)) (hw _ (List.mem_of_getElem? (i := 191) rfl)) (hw _ (List.mem_of_getElem? (i := 8) rfl)) (hw _ (List.mem_of_getElem? (i := 192) rfl)) (by decide) (b := b13) (argsL := [(.ref t27), (.int (0 : Int32))]) (rest := [(.ref b13)]) (rm36 l Z a0 hw b13 t27 h23 n0 E33 F34 F35 g_b13) 1 (by decide) (by decide) rfl (by rw [hml]; rfl) (lenOf pd___BB_V rfl) rfl (by show 2 * 0 + _ ≤ _; exact Nat.le_of_eq rfl) (hb hby d33_22) (by decide) (by decide) (fun v39 T36 h38 A37 hQ40 => ?_)
  obtain ⟨rfl, K41, F42, F43⟩ := hQ40
  have Z44 : n0 ≤ h38.size := Nat.le_trans Z31 K41.1
  have K45 : Keep h0 h38 [] := K32.trans K41 (allS (Or.inr nw_b13) all0)
  have E46 : Exa Z h38 b13 "java/lang/String" := E33.keep K41
  have V47 : own_Arr Z h38 t27 .byte (1 : Int32) (fun i => if i = (0 : Int32) then nar .byte (p0.toInt8.toInt32) else (fun _ => 0) i) := V30.keep K41 (ninS (Ne.symm ne_b13_t27) nin0)
  show own_Go _ _ _ _ (T36.setTop (mkF m 25 #[.val (.int p0)] [(.ref b13)]))
  refine own_retA A37 hx hret rfl hlk (by decide) (by decide) rfl (hb hby d33_25) ?_
  exact ⟨K45, b13, t27, rfl, g_b13, nw_b13, gt28, nw_t27, E46, F42, F43, V47⟩
theorem ef_1 (m : MethodId) (y0 : Int32) (p1 : Int32) (p2 : Int32) : entryFrame m #[(.int y0), (.int p1), (.int p2)] 3 = mkF m 0 #[.val (.int y0), .val (.int p1), .val (.int p2)] [] := by first | (simp [entryFrame, mkF, argsToLocals, Value.category]; done) | rfl
theorem pn_1 : plainName "com/example/crosstie/crosstie/FailureLinePinLaw" = true := by first | (simp [plainName, overriddenIn]; done) | decide +kernel
theorem own_EW {Z : State} {a0 : Array Value} (hw : ∀ d ∈ tables_1, d.before a0 Z = true) : EW Z a0 consts_1 := (EW.cons (hw _ (List.mem_of_getElem? (i := 105) rfl)) (by decide +kernel) (EW.cons (hw _ (List.mem_of_getElem? (i := 106) rfl)) (by decide +kernel) (EW.cons (hw _ (List.mem_of_getElem? (i := 7) rfl)) (by decide +kernel) EW.nil)))
theorem d1_0 : decode method_2_code 0 = .ok (.iload_n 0, 1) := by decide +kernel
theorem d1_1 : decode method_2_code 1 = .ok (.ifCond .ne 6, 3) := by decide +kernel
theorem own_wS {Z : State} {a0 : Array Value} (hw : ∀ d ∈ tables_1, d.before a0 Z = true) : ∀ a ∈ Bundle.stringAtoms, a.before a0 Z = true := fun d hd => hw d ((by decide +kernel : ∀ d ∈ Bundle.stringAtoms, d ∈ tables_1) d hd)
theorem d1_4 : decode method_2_code 4 = .ok (.ldc 7, 2) := by decide +kernel
theorem d1_6 : decode method_2_code 6 = .ok (.areturn, 1) := by decide +kernel
theorem d1_7 : decode method_2_code 7 = .ok (.iload_n 0, 1) := by decide +kernel
theorem d1_8 : decode method_2_code 8 = .ok (.iconst 1, 1) := by decide +kernel
theorem d1_9 : decode method_2_code 9 = .ok (.if_icmp .ne 8, 3) := by decide +kernel
theorem d1_12 : decode method_2_code 12 = .ok (.iload_n 1, 1) := by decide +kernel
theorem d1_13 : decode method_2_code 13 = .ok (.invokestatic 9, 3) := by decide +kernel
theorem pd__C_Ljava_lang_String_ : parseMethodDescriptor "(C)Ljava/lang/String;" = some ⟨[.char], some (.object "java/lang/String")⟩ := by decide +kernel
theorem d1_16 : decode method_2_code 16 = .ok (.areturn, 1) := by decide +kernel
theorem d1_17 : decode method_2_code 17 = .ok (.new 10, 3) := by decide +kernel
theorem d1_20 : decode method_2_code 20 = .ok (.dup, 1) := by decide +kernel
theorem d1_21 : decode method_2_code 21 = .ok (.iconst 2, 1) := by decide +kernel
theorem d1_22 : decode method_2_code 22 = .ok (.newarray .char, 2) := by decide +kernel
theorem d1_24 : decode method_2_code 24 = .ok (.dup, 1) := by decide +kernel
theorem d1_25 : decode method_2_code 25 = .ok (.iconst 0, 1) := by decide +kernel
theorem d1_26 : decode method_2_code 26 = .ok (.iload_n 1, 1) := by decide +kernel
theorem d1_27 : decode method_2_code 27 = .ok (.castore, 1) := by decide +kernel
theorem d1_28 : decode method_2_code 28 = .ok (.dup, 1) := by decide +kernel
theorem d1_29 : decode method_2_code 29 = .ok (.iconst 1, 1) := by decide +kernel
theorem d1_30 : decode method_2_code 30 = .ok (.iload_n 2, 1) := by decide +kernel
theorem d1_31 : decode method_2_code 31 = .ok (.castore, 1) := by decide +kernel
theorem d1_32 : decode method_2_code 32 = .ok (.invokespecial 15, 3) := by decide +kernel
theorem pd___C_V : parseMethodDescriptor "([C)V" = some ⟨[(.array .char)], none⟩ := by decide +kernel
theorem d1_35 : decode method_2_code 35 = .ok (.areturn, 1) := by decide +kernel
set_option maxRecDepth 65536 in
set_option maxHeartbeats 40000000 in
theorem rm1 (l : Launch) (Z : State) (a0 : Array Value) (hw : ∀ d ∈ tables_1, d.before a0 Z = true) (p1 : Int32) (p2 : Int32) (n : Nat) (z_C : Int32) (h0 : Heap) (n0 : Nat) (O0 : Old Z n0 h0) (Z0 : n0 ≤ h0.size) (hz : ¬ z_C = 0) (S_COMPACT_STRINGS : Sta Z Z.heap "java/lang/String" "COMPACT_STRINGS" "Z" (.int z_C)) (hn : n < 3) (h1 : ¬ p1 < 0 ∧ ¬ (255 : Int32) < p1) (h2 : ¬ p2 < 0 ∧ ¬ (255 : Int32) < p2) :
    own_MetC l Z consts_1 n0 (⟨"com/example/crosstie/crosstie/FailureLinePinLaw", "mk", "(ICC)Ljava/lang/String;"⟩ : MethodName) method_2_code 3 (some (.object "java/lang/String")) ({ frames := 4, cells := 4, slots := 12, locals := 66 } : Room) #[(.int (Int32.ofNat n)), (.int p1), (.int p2)] h0 (fun v h => Keep h0 h [] ∧ ∃ x t f, v = some (.ref x) ∧ Exa Z h x "java/lang/String" ∧ Fld Z h x "java/lang/String" "coder" "B" (.int (0 : Int32)) ∧ Fld Z h x "java/lang/String" "value" "[B" (.ref t) ∧ own_Arr Z h t .byte (Int32.ofNat (own_mkn n p1 p2).length) f ∧ own_Pre f (own_mkn n p1 p2) ∧ own_Byt f (own_mkn n p1 p2).length) := by
  refine own_metC (plainFor_of_name pn_1) ?_
  intro p e s m below meth c T0 hx hby hml hown hnm hret hlk hZ A0 hs0 hS C0
  have hEL := own_EW hw
  rw [ef_1]
  show own_Go _ _ _ _ (T0.setTop (mkF m 0 #[.val (.int (Int32.ofNat n)), .val (.int p1), .val (.int p2)] []))
  refine own_go (fun t_ k_ => XS.iloadN A0.here hx rfl (hb hby d1_0) rfl k_) ?_
  show own_Go _ _ _ _ (T0.setTop (mkF m 1 #[.val (.int (Int32.ofNat n)), .val (.int p1), .val (.int p2)] [(.int (Int32.ofNat n))]))
  by_cases hc1 : (Int32.ofNat n) = (0 : Int32)
  ·
    refine own_go (fun t_ k_ => XS.ifNo A0.here hx rfl (hb hby d1_1) rfl ((if0 _ _).trans (teq hc1).2) k_) ?_
    show own_Go _ _ _ _ (T0.setTop (mkF m 4 #[.val (.int (Int32.ofNat n)), .val (.int p1), .val (.int p2)] []))
    refine own_ldcC A0 hx hZ hown (hw _ (List.mem_of_getElem? (i := 7) rfl)) (own_wS hw) hEL (by decide) C0 hS (Nat.zero_le _) (xs := []) (z := (0 : Int32)) ⟨by decide +kernel, by decide +kernel⟩ (by decide) rfl rfl (hb hby d1_4) 0 (by decide +kernel) (by decide) (by decide) (by decide) (fun T2 h4 b5 b6 vm7 k8 A3 E9 R10 hS11 hk12 hZ hown NE13 X14 F15 F16 V17 => ?_)
    have K18 : Keep h0 h4 [] := (Keep.refl _ _).ext E9
    have C19 : CHr Z consts_1 s.vm h0 vm7 h4 := C0.trans R10
    have O20 : Old Z n0 h4 := O0.keep K18 all0
    have Z21 : n0 ≤ h4.size := Nat.le_trans Z0 K18.1
    have K22 : Keep h0 h4 [] := (Keep.refl h0 []).trans K18 all0
    show own_Go _ _ _ _ (T2.setTop (mkF m 6 #[.val (.int (Int32.ofNat n)), .val (.int p1), .val (.int p2)] [(.ref b5)]))
    refine own_retAC A3 hx hret rfl hlk (by decide) (by decide) hZ hEL hs0 C19 hS11 hk12 rfl (hb hby d1_6) ?_
    obtain rfl : n = 0 := (own_neq (j := 0) (by omega) (by decide)).mp hc1
    exact ⟨K22, b5, b6, (fun j => ([] : List Int32).getD j.toNatClampNeg 0), rfl, X14, F15, F16, V17, own_pre0, (fun k hk => absurd hk (Nat.not_lt_zero _))⟩
  ·
    refine own_go (fun t_ k_ => XS.ifYes A0.here hx rfl (pc0 := 1) (pc' := 7) rfl (hb hby d1_1) rfl ((if0 _ _).trans (feq hc1).2) (by decide) (by decide) k_) ?_
    show own_Go _ _ _ _ (T0.setTop (mkF m 7 #[.val (.int (Int32.ofNat n)), .val (.int p1), .val (.int p2)] []))
    refine own_go (fun t_ k_ => XS.iloadN A0.here hx rfl (hb hby d1_7) rfl k_) ?_
    show own_Go _ _ _ _ (T0.setTop (mkF m 8 #[.val (.int (Int32.ofNat n)), .val (.int p1), .val (.int p2)] [(.int (Int32.ofNat n))]))
    refine own_go (fun t_ k_ => XS.iconst A0.here hx rfl (hb hby d1_8) k_) ?_
    show own_Go _ _ _ _ (T0.setTop (mkF m 9 #[.val (.int (Int32.ofNat n)), .val (.int p1), .val (.int p2)] [(.int (1 : Int32)), (.int (Int32.ofNat n))]))
    by_cases hc23 : (Int32.ofNat n) = (1 : Int32)
    ·
      refine own_go (fun t_ k_ => XS.icmpNo A0.here hx rfl (hb hby d1_9) rfl (teq hc23).2 k_) ?_
      show own_Go _ _ _ _ (T0.setTop (mkF m 12 #[.val (.int (Int32.ofNat n)), .val (.int p1), .val (.int p2)] []))
      refine own_go (fun t_ k_ => XS.iloadN A0.here hx rfl (hb hby d1_12) rfl k_) ?_
      show own_Go _ _ _ _ (T0.setTop (mkF m 13 #[.val (.int (Int32.ofNat n)), .val (.int p1), .val (.int p2)] [(.int p1)]))
      refine own_callS A0 hx hZ hown (y := (⟨"java/lang/String", "valueOf", "(C)Ljava/lang/String;"⟩ : MethodName)) (hw _ (List.mem_of_getElem? (i := 180) rfl)) (hw _ (List.mem_of_getElem? (i := 181) rfl)) (hw _ (List.mem_of_getElem? (i := 8) rfl)) (hw _ (List.mem_of_getElem? (i := 182) rfl)) (by decide) (argsL := [(.int p1)]) (rest := []) (rm33 l Z a0 hw p1 z_C h0 n0 (S_COMPACT_STRINGS.ext O0.2) hz Z0 h1) 0 (by decide) (by decide) rfl (by rw [hml]; rfl) (lenOf pd__C_Ljava_lang_String_ rfl) rfl (by show 2 * 0 + _ ≤ _; exact Nat.le_of_eq rfl) (hb hby d1_13) (by decide) (by decide) (fun v27 T24 h26 A25 hQ28 => ?_)
      obtain ⟨K29, s30, t31, rfl, gt32, nt33, gt34, nt35, E36, F37, F38, V39⟩ := hQ28
      have C40 : CHr Z consts_1 s.vm h0 s.vm h26 := C0.trans (CHr.keep K29 sf0 C0.1)
      have Y41 : 0 ≤ h26.size := Nat.le_trans (Nat.zero_le _) K29.1
      have O42 : Old Z n0 h26 := O0.keep K29 all0
      have Z43 : n0 ≤ h26.size := Nat.le_trans Z0 K29.1
      have K44 : Keep h0 h26 [] := (Keep.refl h0 []).trans K29 all0
      show own_Go _ _ _ _ (T24.setTop (mkF m 16 #[.val (.int (Int32.ofNat n)), .val (.int p1), .val (.int p2)] [(.ref s30)]))
      refine own_retAC A25 hx hret rfl hlk (by decide) (by decide) hZ hEL hs0 C40 hS Y41 rfl (hb hby d1_16) ?_
      obtain rfl : n = 1 := (own_neq (j := 1) (by omega) (by decide)).mp hc23
      exact ⟨K44, s30, t31, (fun i => if i = (0 : Int32) then nar .byte (p1.toInt8.toInt32) else (fun _ => 0) i), rfl, E36, F37, F38, V39, (own_pre1 (own_b8 p1)), (own_byt1 (x := p1) (own_b8 p1))⟩
    ·
      refine own_go (fun t_ k_ => XS.icmpYes A0.here hx rfl (pc0 := 9) (pc' := 17) rfl (hb hby d1_9) rfl (feq hc23).2 (by decide) (by decide) k_) ?_
      show own_Go _ _ _ _ (T0.setTop (mkF m 17 #[.val (.int (Int32.ofNat n)), .val (.int p1), .val (.int p2)] []))
      refine own_newO A0 hx hZ hown (hw _ (List.mem_of_getElem? (i := 193) rfl)) (hw _ (List.mem_of_getElem? (i := 9) rfl)) (hw _ (List.mem_of_getElem? (i := 8) rfl)) rfl (hb hby d1_17) (by decide) (by decide) (fun T45 h47 b48 ha_b48 A46 E49 X50 D51 => ?_)
      have g_b48 : n0 ≤ b48 := by rw [ha_b48]; exact Z0
      have nw_b48 : h0.size ≤ b48 := by rw [ha_b48]; exact (Keep.refl h0 []).1
      have sf_b48 : Safe Z consts_1 s.vm h47 b48 := Safe.ext E49 C0.1 (Safe.new (Nat.le_of_eq ha_b48.symm))
      have C52 : CHr Z consts_1 s.vm h0 s.vm h47 := C0.trans (CHr.ext E49 C0.1)
      have Y53 : 0 ≤ h47.size := Nat.le_trans (Nat.zero_le _) E49.1
      have O54 : Old Z n0 h47 := O0.ext E49
      have Z55 : n0 ≤ h47.size := Nat.le_trans Z0 E49.1
      have K56 : Keep h0 h47 [] := (Keep.refl h0 []).ext E49
      have F57 : Fld Z h47 b48 "java/lang/String" "value" "[B" .null := D51 (Or.inr (hw _ (List.mem_of_getElem? (i := 11) rfl))) (ty := (.array .byte)) (by decide)
      have F58 : Fld Z h47 b48 "java/lang/String" "coder" "B" (.int (0 : Int32)) := D51 (Or.inr (hw _ (List.mem_of_getElem? (i := 12) rfl))) (ty := .byte) (by decide)
      show own_Go _ _ _ _ (T45.setTop (mkF m 20 #[.val (.int (Int32.ofNat n)), .val (.int p1), .val (.int p2)] [(.ref b48)]))
      refine own_go (fun t_ k_ => XS.dup A46.here hx rfl (hb hby d1_20) rfl rfl k_) ?_
      show own_Go _ _ _ _ (T45.setTop (mkF m 21 #[.val (.int (Int32.ofNat n)), .val (.int p1), .val (.int p2)] [(.ref b48), (.ref b48)]))
      refine own_go (fun t_ k_ => XS.iconst A46.here hx rfl (hb hby d1_21) k_) ?_
      show own_Go _ _ _ _ (T45.setTop (mkF m 22 #[.val (.int (Int32.ofNat n)), .val (.int p1), .val (.int p2)] [(.int (2 : Int32)), (.ref b48), (.ref b48)]))
      refine own_newP A46 hx hZ (hw _ (List.mem_of_getElem? (i := 194) rfl)) rfl rfl (hb hby d1_22) rfl (by decide) 2 (by decide) (by decide) (by decide) (by decide) (fun T59 h61 b62 ha_b62 A60 E63 V64 R65 => ?_)
      have ne_b48_b62 : b48 ≠ b62 := Nat.ne_of_lt (by rw [ha_b62]; exact X50.lt)
      have g_b62 : n0 ≤ b62 := by rw [ha_b62]; exact Z55
      have nw_b62 : h0.size ≤ b62 := by rw [ha_b62]; exact K56.1
      have sf_b62 : Safe Z consts_1 s.vm h61 b62 := Safe.ext E63 C52.1 (Safe.new (Nat.le_of_eq ha_b62.symm))
      have C66 : CHr Z consts_1 s.vm h0 s.vm h61 := C52.trans (CHr.ext E63 C52.1)
      have Y67 : 0 ≤ h61.size := Nat.le_trans Y53 E63.1
      have O68 : Old Z n0 h61 := O54.ext E63
      have Z69 : n0 ≤ h61.size := Nat.le_trans Z55 E63.1
      have K70 : Keep h0 h61 [] := K56.ext E63
      have sf71 : Safe Z consts_1 s.vm h61 b48 := Safe.ext E63 C52.1 sf_b48
      have E72 : Exa Z h61 b48 "java/lang/String" := X50.ext E63
      have F73 : Fld Z h61 b48 "java/lang/String" "value" "[B" .null := F57.ext E63
      have F74 : Fld Z h61 b48 "java/lang/String" "coder" "B" (.int (0 : Int32)) := F58.ext E63
      show own_Go _ _ _ _ (T59.setTop (mkF m 24 #[.val (.int (Int32.ofNat n)), .val (.int p1), .val (.int p2)] [(.ref b62), (.ref b48), (.ref b48)]))
      refine own_go (fun t_ k_ => XS.dup A60.here hx rfl (hb hby d1_24) rfl rfl k_) ?_
      show own_Go _ _ _ _ (T59.setTop (mkF m 25 #[.val (.int (Int32.ofNat n)), .val (.int p1), .val (.int p2)] [(.ref b62), (.ref b62), (.ref b48), (.ref b48)]))
      refine own_go (fun t_ k_ => XS.iconst A60.here hx rfl (hb hby d1_25) k_) ?_
      show own_Go _ _ _ _ (T59.setTop (mkF m 26 #[.val (.int (Int32.ofNat n)), .val (.int p1), .val (.int p2)] [(.int (0 : Int32)), (.ref b62), (.ref b62), (.ref b48), (.ref b48)]))
      refine own_go (fun t_ k_ => XS.iloadN A60.here hx rfl (hb hby d1_26) rfl k_) ?_
      show own_Go _ _ _ _ (T59.setTop (mkF m 27 #[.val (.int (Int32.ofNat n)), .val (.int p1), .val (.int p2)] [(.int p1), (.int (0 : Int32)), (.ref b62), (.ref b62), (.ref b48), (.ref b48)]))
      refine own_stC A60 hx hZ V64 ⟨by decide, by decide⟩ g_b62 rfl rfl (hb hby d1_27) (fun T75 h77 A76 W78 V79 => ?_)
      have C80 : CHr Z consts_1 s.vm h0 s.vm h77 := C66.trans (CHr.wr W78 sf_b62 C66.1)
      have Y81 : 0 ≤ h77.size := Nat.le_trans Y67 (Nat.le_of_eq (Wr.size W78).symm)
      have O82 : Old Z n0 h77 := O68.wr W78 g_b62
      have Z83 : n0 ≤ h77.size := Nat.le_trans Z69 (Nat.le_of_eq (Wr.size W78).symm)
      have K84 : Keep h0 h77 [] := K70.wr W78 (Or.inr nw_b62)
      have sf85 : Safe Z consts_1 s.vm h77 b48 := Safe.wr W78 sf_b62 C66.1 sf71
      have E86 : Exa Z h77 b48 "java/lang/String" := E72.wr W78
      have F87 : Fld Z h77 b48 "java/lang/String" "value" "[B" .null := F73.other W78 (Or.inl ne_b48_b62)
      have F88 : Fld Z h77 b48 "java/lang/String" "coder" "B" (.int (0 : Int32)) := F74.other W78 (Or.inl ne_b48_b62)
      have sf89 : Safe Z consts_1 s.vm h77 b62 := Safe.wr W78 sf_b62 C66.1 sf_b62
      have V90 : own_Arr Z h77 b62 .char (2 : Int32) (fun i => if i = (0 : Int32) then nar .char p1 else (fun _ => 0) i) := V79
      show own_Go _ _ _ _ (T75.setTop (mkF m 28 #[.val (.int (Int32.ofNat n)), .val (.int p1), .val (.int p2)] [(.ref b62), (.ref b48), (.ref b48)]))
      refine own_go (fun t_ k_ => XS.dup A76.here hx rfl (hb hby d1_28) rfl rfl k_) ?_
      show own_Go _ _ _ _ (T75.setTop (mkF m 29 #[.val (.int (Int32.ofNat n)), .val (.int p1), .val (.int p2)] [(.ref b62), (.ref b62), (.ref b48), (.ref b48)]))
      refine own_go (fun t_ k_ => XS.iconst A76.here hx rfl (hb hby d1_29) k_) ?_
      show own_Go _ _ _ _ (T75.setTop (mkF m 30 #[.val (.int (Int32.ofNat n)), .val (.int p1), .val (.int p2)] [(.int (1 : Int32)), (.ref b62), (.ref b62), (.ref b48), (.ref b48)]))
      refine own_go (fun t_ k_ => XS.iloadN A76.here hx rfl (hb hby d1_30) rfl k_) ?_
      show own_Go _ _ _ _ (T75.setTop (mkF m 31 #[.val (.int (Int32.ofNat n)), .val (.int p1), .val (.int p2)] [(.int p2), (.int (1 : Int32)), (.ref b62), (.ref b62), (.ref b48), (.ref b48)]))
      refine own_stC A76 hx hZ V90 ⟨by decide, by decide⟩ g_b62 rfl rfl (hb hby d1_31) (fun T91 h93 A92 W94 V95 => ?_)
      have C96 : CHr Z consts_1 s.vm h0 s.vm h93 := C80.trans (CHr.wr W94 sf89 C80.1)
      have Y97 : 0 ≤ h93.size := Nat.le_trans Y81 (Nat.le_of_eq (Wr.size W94).symm)
      have O98 : Old Z n0 h93 := O82.wr W94 g_b62
      have Z99 : n0 ≤ h93.size := Nat.le_trans Z83 (Nat.le_of_eq (Wr.size W94).symm)
      have K100 : Keep h0 h93 [] := K84.wr W94 (Or.inr nw_b62)
      have sf101 : Safe Z consts_1 s.vm h93 b48 := Safe.wr W94 sf89 C80.1 sf85
      have E102 : Exa Z h93 b48 "java/lang/String" := E86.wr W94
      have F103 : Fld Z h93 b48 "java/lang/String" "value" "[B" .null := F87.other W94 (Or.inl ne_b48_b62)
      have F104 : Fld Z h93 b48 "java/lang/String" "coder" "B" (.int (0 : Int32)) := F88.other W94 (Or.inl ne_b48_b62)
      have sf105 : Safe Z consts_1 s.vm h93 b62 := Safe.wr W94 sf89 C80.1 sf89
      have V106 : own_Arr Z h93 b62 .char (2 : Int32) (fun i => if i = (1 : Int32) then nar .char p2 else (fun i => if i = (0 : Int32) then nar .char p1 else (fun _ => 0) i) i) := V95
      show own_Go _ _ _ _ (T91.setTop (mkF m 32 #[.val (.int (Int32.ofNat n)), .val (.int p1), .val (.int p2)] [(.ref b62), (.ref b48), (.ref b48)]))
      refine own_callIB A92 hx hZ (y := (⟨"java/lang/String", "<init>", "([C)V"⟩ : MethodName)) rfl hown (hw _ (List.mem_of_getElem? (i := 195) rfl)) (hw _ (List.mem_of_getElem? (i := 196) rfl)) (hw _ (List.mem_of_getElem? (i := 197) rfl)) (by decide) (b := b48) (argsL := [(.ref b62)]) (rest := [(.ref b48)]) (own_newStr (n := 2) (W := 1) hZ (own_hws hw) (hw _ (List.mem_of_getElem? (i := 9) rfl)) g_b48 Z99 E102 F103 F104 V106 (S_COMPACT_STRINGS.ext O98.2) hz (by decide) (by decide) (own_hp2 h1 h2) (by decide) (by decide)) rfl (by rw [hml]; rfl) (lenOf pd___C_V rfl) rfl (by show 2 * 0 + _ ≤ _; exact Nat.le_of_eq rfl) (hb hby d1_32) (by decide) (by decide) (fun v110 T107 h109 A108 hQ111 => ?_)
      obtain ⟨rfl, K112, E113, F114, t115, gt116, nt117, F118, V119⟩ := hQ111
      have C120 : CHr Z consts_1 s.vm h0 s.vm h109 := C96.trans (CHr.keep K112 (sfS sf101 sf0) C96.1)
      have Y121 : 0 ≤ h109.size := Nat.le_trans Y97 K112.1
      have O122 : Old Z n0 h109 := O98.keep K112 (allS g_b48 all0)
      have Z123 : n0 ≤ h109.size := Nat.le_trans Z99 K112.1
      have K124 : Keep h0 h109 [] := K100.trans K112 (allS (Or.inr nw_b48) all0)
      have sf125 : Safe Z consts_1 s.vm h109 b48 := Safe.keep K112 (sfS sf101 sf0) C96.1 sf101
      have E126 : Exa Z h109 b48 "java/lang/String" := E102.keep K112
      have sf127 : Safe Z consts_1 s.vm h109 b62 := Safe.keep K112 (sfS sf101 sf0) C96.1 sf105
      have V128 : own_Arr Z h109 b62 .char (2 : Int32) (fun i => if i = (1 : Int32) then nar .char p2 else (fun i => if i = (0 : Int32) then nar .char p1 else (fun _ => 0) i) i) := V106.keep K112 (ninS (Ne.symm ne_b48_b62) nin0)
      show own_Go _ _ _ _ (T107.setTop (mkF m 35 #[.val (.int (Int32.ofNat n)), .val (.int p1), .val (.int p2)] [(.ref b48)]))
      refine own_retAC A108 hx hret rfl hlk (by decide) (by decide) hZ hEL hs0 C120 hS Y121 rfl (hb hby d1_35) ?_
      obtain rfl : n = 2 := by have a1 : ¬ n = 0 := fun z => hc1 (by rw [z]; rfl); have a2 : ¬ n = 1 := fun z => hc23 (by rw [z]; rfl); omega
      exact ⟨K124, b48, t115, (fun j => ((fun i => if i = (1 : Int32) then nar .char p2 else (fun i => if i = (0 : Int32) then nar .char p1 else (fun _ => 0) i) i) j).toInt8.toInt32), rfl, E113, F114, F118, V119, (own_pre2 (show (nar .char p1).toInt8.toInt32 = p1.toInt8.toInt32 by rw [own_nc h1]) (show (nar .char p2).toInt8.toInt32 = p2.toInt8.toInt32 by rw [own_nc h2])), (own_byt2 (x := p1) (y := p2) (show (nar .char p1).toInt8.toInt32 = p1.toInt8.toInt32 by rw [own_nc h1]) (show (nar .char p2).toInt8.toInt32 = p2.toInt8.toInt32 by rw [own_nc h2]))⟩
theorem ef_3 (m : MethodId) (r0 : Addr) : entryFrame m #[(.ref r0)] 1 = mkF m 0 #[.val (.ref r0)] [] := by first | (simp [entryFrame, mkF, argsToLocals, Value.category]; done) | rfl
theorem pn_3 : plainName "java/lang/Record" = true := by first | (simp [plainName, overriddenIn]; done) | decide +kernel
theorem d3_0 : decode jdk_30_method_1_code 0 = .ok (.aload_n 0, 1) := by decide +kernel
theorem d3_1 : decode jdk_30_method_1_code 1 = .ok (.invokespecial 1, 3) := by decide +kernel
theorem d3_4 : decode jdk_30_method_1_code 4 = .ok (.return_, 1) := by decide +kernel
set_option maxRecDepth 65536 in
set_option maxHeartbeats 40000000 in
theorem rm3 (l : Launch) (Z : State) (a0 : Array Value) (hw : ∀ d ∈ tables_1, d.before a0 Z = true) (r0 : Addr) (h0 : Heap) (n0 : Nat) :
    own_Met l Z n0 (⟨"java/lang/Record", "<init>", "()V"⟩ : MethodName) jdk_30_method_1_code 1 none ({ frames := 1, cells := 0, slots := 0, locals := 12 } : Room) #[(.ref r0)] h0 (fun v h => v = none ∧ h0 = h) := by
  refine own_met (plainFor_of_name pn_3) ?_
  intro p e s m below meth c T0 hx hby hml hown hnm hret hlk hZ A0
  rw [ef_3]
  show own_Go _ _ _ _ (T0.setTop (mkF m 0 #[.val (.ref r0)] []))
  refine own_go (fun t_ k_ => XS.aloadN A0.here hx rfl (hb hby d3_0) rfl rfl k_) ?_
  show own_Go _ _ _ _ (T0.setTop (mkF m 1 #[.val (.ref r0)] [(.ref r0)]))
  refine own_initO A0 hx hZ hown (hw _ (List.mem_of_getElem? (i := 23) rfl)) (hw _ (List.mem_of_getElem? (i := 24) rfl)) (hw _ (List.mem_of_getElem? (i := 25) rfl)) rfl (by rw [hml]; rfl) rfl (hb hby d3_1) (by decide) 0 (by show 2 * 0 + _ ≤ _; exact Nat.le_of_eq rfl) (by decide) (fun T1 A2 => ?_)
  show own_Go _ _ _ _ (T1.setTop (mkF m 4 #[.val (.ref r0)] []))
  refine own_retV A2 hx hret hlk (by decide) (by decide) (hb hby d3_4) ?_
  exact ⟨rfl, rfl⟩
theorem ef_2 (m : MethodId) (r0 : Addr) (r1 : Addr) (r2 : Addr) (r3 : Addr) : entryFrame m #[(.ref r0), (.ref r1), (.ref r2), (.ref r3)] 4 = mkF m 0 #[.val (.ref r0), .val (.ref r1), .val (.ref r2), .val (.ref r3)] [] := by first | (simp [entryFrame, mkF, argsToLocals, Value.category]; done) | rfl
theorem pn_2 : plainName "com/example/crosstie/crosstie/Failure" = true := by first | (simp [plainName, overriddenIn]; done) | decide +kernel
theorem d2_0 : decode prog_4_method_1_code 0 = .ok (.aload_n 0, 1) := by decide +kernel
theorem d2_1 : decode prog_4_method_1_code 1 = .ok (.invokespecial 1, 3) := by decide +kernel
theorem pd___V : parseMethodDescriptor "()V" = some ⟨[], none⟩ := by decide +kernel
theorem d2_4 : decode prog_4_method_1_code 4 = .ok (.aload_n 0, 1) := by decide +kernel
theorem d2_5 : decode prog_4_method_1_code 5 = .ok (.aload_n 1, 1) := by decide +kernel
theorem d2_6 : decode prog_4_method_1_code 6 = .ok (.putfield 7, 3) := by decide +kernel
theorem d2_9 : decode prog_4_method_1_code 9 = .ok (.aload_n 0, 1) := by decide +kernel
theorem d2_10 : decode prog_4_method_1_code 10 = .ok (.aload_n 2, 1) := by decide +kernel
theorem d2_11 : decode prog_4_method_1_code 11 = .ok (.putfield 13, 3) := by decide +kernel
theorem d2_14 : decode prog_4_method_1_code 14 = .ok (.aload_n 0, 1) := by decide +kernel
theorem d2_15 : decode prog_4_method_1_code 15 = .ok (.aload_n 3, 1) := by decide +kernel
theorem d2_16 : decode prog_4_method_1_code 16 = .ok (.putfield 16, 3) := by decide +kernel
theorem d2_19 : decode prog_4_method_1_code 19 = .ok (.return_, 1) := by decide +kernel
set_option maxRecDepth 65536 in
set_option maxHeartbeats 40000000 in
theorem rm2 (l : Launch) (Z : State) (a0 : Array Value) (hw : ∀ d ∈ tables_1, d.before a0 Z = true) (r0 : Addr) (r1 : Addr) (r2 : Addr) (r3 : Addr) (h0 : Heap) (n0 : Nat) (E0 : Exa Z h0 r0 "com/example/crosstie/crosstie/Failure") (F0_rule : Fld Z h0 r0 "com/example/crosstie/crosstie/Failure" "rule" "Ljava/lang/String;" .null) (F0_where : Fld Z h0 r0 "com/example/crosstie/crosstie/Failure" "where" "Ljava/lang/String;" .null) (F0_explanation : Fld Z h0 r0 "com/example/crosstie/crosstie/Failure" "explanation" "Ljava/lang/String;" .null) (g0 : n0 ≤ r0) :
    own_Met l Z n0 (⟨"com/example/crosstie/crosstie/Failure", "<init>", "(Ljava/lang/String;Ljava/lang/String;Ljava/lang/String;)V"⟩ : MethodName) prog_4_method_1_code 4 none ({ frames := 2, cells := 0, slots := 0, locals := 24 } : Room) #[(.ref r0), (.ref r1), (.ref r2), (.ref r3)] h0 (fun v h => v = none ∧ Keep h0 h [r0] ∧ Fld Z h r0 "com/example/crosstie/crosstie/Failure" "rule" "Ljava/lang/String;" (.ref r1) ∧ Fld Z h r0 "com/example/crosstie/crosstie/Failure" "where" "Ljava/lang/String;" (.ref r2) ∧ Fld Z h r0 "com/example/crosstie/crosstie/Failure" "explanation" "Ljava/lang/String;" (.ref r3)) := by
  refine own_met (plainFor_of_name pn_2) ?_
  intro p e s m below meth c T0 hx hby hml hown hnm hret hlk hZ A0
  rw [ef_2]
  show own_Go _ _ _ _ (T0.setTop (mkF m 0 #[.val (.ref r0), .val (.ref r1), .val (.ref r2), .val (.ref r3)] []))
  refine own_go (fun t_ k_ => XS.aloadN A0.here hx rfl (hb hby d2_0) rfl rfl k_) ?_
  show own_Go _ _ _ _ (T0.setTop (mkF m 1 #[.val (.ref r0), .val (.ref r1), .val (.ref r2), .val (.ref r3)] [(.ref r0)]))
  refine own_callI A0 hx hZ (y := (⟨"java/lang/Record", "<init>", "()V"⟩ : MethodName)) rfl hown (hw _ (List.mem_of_getElem? (i := 18) rfl)) (hw _ (List.mem_of_getElem? (i := 19) rfl)) (hw _ (List.mem_of_getElem? (i := 21) rfl)) (hw _ (List.mem_of_getElem? (i := 22) rfl)) (by decide) (b := r0) (argsL := []) (rest := []) (rm3 l Z a0 hw r0 h0 n0 ) 0 (by decide) (by decide) rfl (by rw [hml]; rfl) (lenOf pd___V rfl) rfl (by show 2 * 0 + _ ≤ _; exact Nat.le_of_eq rfl) (hb hby d2_1) (by decide) (by decide) (fun v4 T1 h3 A2 hQ5 => ?_)
  obtain ⟨rfl, rfl⟩ := hQ5
  show own_Go _ _ _ _ (T1.setTop (mkF m 4 #[.val (.ref r0), .val (.ref r1), .val (.ref r2), .val (.ref r3)] []))
  refine own_go (fun t_ k_ => XS.aloadN A2.here hx rfl (hb hby d2_4) rfl rfl k_) ?_
  show own_Go _ _ _ _ (T1.setTop (mkF m 5 #[.val (.ref r0), .val (.ref r1), .val (.ref r2), .val (.ref r3)] [(.ref r0)]))
  refine own_go (fun t_ k_ => XS.aloadN A2.here hx rfl (hb hby d2_5) rfl rfl k_) ?_
  show own_Go _ _ _ _ (T1.setTop (mkF m 6 #[.val (.ref r0), .val (.ref r1), .val (.ref r2), .val (.ref r3)] [(.ref r1), (.ref r0)]))
  refine own_putF A2 hx hZ hown (host := "") (Or.inl (hw _ (List.mem_of_getElem? (i := 26) rfl))) Via.refl F0_rule E0 (Or.inr ⟨(hw _ (List.mem_of_getElem? (i := 27) rfl)), rfl, hnm⟩) (hw _ (List.mem_of_getElem? (i := 1) rfl)) (ty := (.object "java/lang/String")) (by decide) rfl rfl g0 rfl rfl (hb hby d2_6) (fun T6 h8 A7 W9 => ?_)
  have E10 : Exa Z h8 r0 "com/example/crosstie/crosstie/Failure" := E0.wr W9
  have F11 : Fld Z h8 r0 "com/example/crosstie/crosstie/Failure" "rule" "Ljava/lang/String;" (.ref r1) := F0_rule.same W9
  have F12 : Fld Z h8 r0 "com/example/crosstie/crosstie/Failure" "where" "Ljava/lang/String;" .null := F0_where.other W9 (Or.inr (slot_ne (Or.inr (hw _ (List.mem_of_getElem? (i := 29) rfl))) (Or.inr (hw _ (List.mem_of_getElem? (i := 27) rfl))) (by decide) (t := (.object "java/lang/String")) (t' := (.object "java/lang/String")) (by decide) (by decide)))
  have F13 : Fld Z h8 r0 "com/example/crosstie/crosstie/Failure" "explanation" "Ljava/lang/String;" .null := F0_explanation.other W9 (Or.inr (slot_ne (Or.inr (hw _ (List.mem_of_getElem? (i := 31) rfl))) (Or.inr (hw _ (List.mem_of_getElem? (i := 27) rfl))) (by decide) (t := (.object "java/lang/String")) (t' := (.object "java/lang/String")) (by decide) (by decide)))
  have K14 : Keep h0 h8 [r0] := (Keep.refl h0 [r0]).wr W9 (Or.inl (List.mem_of_getElem? (i := 0) rfl))
  show own_Go _ _ _ _ (T6.setTop (mkF m 9 #[.val (.ref r0), .val (.ref r1), .val (.ref r2), .val (.ref r3)] []))
  refine own_go (fun t_ k_ => XS.aloadN A7.here hx rfl (hb hby d2_9) rfl rfl k_) ?_
  show own_Go _ _ _ _ (T6.setTop (mkF m 10 #[.val (.ref r0), .val (.ref r1), .val (.ref r2), .val (.ref r3)] [(.ref r0)]))
  refine own_go (fun t_ k_ => XS.aloadN A7.here hx rfl (hb hby d2_10) rfl rfl k_) ?_
  show own_Go _ _ _ _ (T6.setTop (mkF m 11 #[.val (.ref r0), .val (.ref r1), .val (.ref r2), .val (.ref r3)] [(.ref r2), (.ref r0)]))
  refine own_putF A7 hx hZ hown (host := "") (Or.inl (hw _ (List.mem_of_getElem? (i := 28) rfl))) Via.refl F12 E10 (Or.inr ⟨(hw _ (List.mem_of_getElem? (i := 29) rfl)), rfl, hnm⟩) (hw _ (List.mem_of_getElem? (i := 1) rfl)) (ty := (.object "java/lang/String")) (by decide) rfl rfl g0 rfl rfl (hb hby d2_11) (fun T15 h17 A16 W18 => ?_)
  have E19 : Exa Z h17 r0 "com/example/crosstie/crosstie/Failure" := E10.wr W18
  have F20 : Fld Z h17 r0 "com/example/crosstie/crosstie/Failure" "rule" "Ljava/lang/String;" (.ref r1) := F11.other W18 (Or.inr (slot_ne (Or.inr (hw _ (List.mem_of_getElem? (i := 27) rfl))) (Or.inr (hw _ (List.mem_of_getElem? (i := 29) rfl))) (by decide) (t := (.object "java/lang/String")) (t' := (.object "java/lang/String")) (by decide) (by decide)))
  have F21 : Fld Z h17 r0 "com/example/crosstie/crosstie/Failure" "where" "Ljava/lang/String;" (.ref r2) := F12.same W18
  have F22 : Fld Z h17 r0 "com/example/crosstie/crosstie/Failure" "explanation" "Ljava/lang/String;" .null := F13.other W18 (Or.inr (slot_ne (Or.inr (hw _ (List.mem_of_getElem? (i := 31) rfl))) (Or.inr (hw _ (List.mem_of_getElem? (i := 29) rfl))) (by decide) (t := (.object "java/lang/String")) (t' := (.object "java/lang/String")) (by decide) (by decide)))
  have K23 : Keep h0 h17 [r0] := K14.wr W18 (Or.inl (List.mem_of_getElem? (i := 0) rfl))
  show own_Go _ _ _ _ (T15.setTop (mkF m 14 #[.val (.ref r0), .val (.ref r1), .val (.ref r2), .val (.ref r3)] []))
  refine own_go (fun t_ k_ => XS.aloadN A16.here hx rfl (hb hby d2_14) rfl rfl k_) ?_
  show own_Go _ _ _ _ (T15.setTop (mkF m 15 #[.val (.ref r0), .val (.ref r1), .val (.ref r2), .val (.ref r3)] [(.ref r0)]))
  refine own_go (fun t_ k_ => XS.aloadN A16.here hx rfl (hb hby d2_15) rfl rfl k_) ?_
  show own_Go _ _ _ _ (T15.setTop (mkF m 16 #[.val (.ref r0), .val (.ref r1), .val (.ref r2), .val (.ref r3)] [(.ref r3), (.ref r0)]))
  refine own_putF A16 hx hZ hown (host := "") (Or.inl (hw _ (List.mem_of_getElem? (i := 30) rfl))) Via.refl F22 E19 (Or.inr ⟨(hw _ (List.mem_of_getElem? (i := 31) rfl)), rfl, hnm⟩) (hw _ (List.mem_of_getElem? (i := 1) rfl)) (ty := (.object "java/lang/String")) (by decide) rfl rfl g0 rfl rfl (hb hby d2_16) (fun T24 h26 A25 W27 => ?_)
  have E28 : Exa Z h26 r0 "com/example/crosstie/crosstie/Failure" := E19.wr W27
  have F29 : Fld Z h26 r0 "com/example/crosstie/crosstie/Failure" "rule" "Ljava/lang/String;" (.ref r1) := F20.other W27 (Or.inr (slot_ne (Or.inr (hw _ (List.mem_of_getElem? (i := 27) rfl))) (Or.inr (hw _ (List.mem_of_getElem? (i := 31) rfl))) (by decide) (t := (.object "java/lang/String")) (t' := (.object "java/lang/String")) (by decide) (by decide)))
  have F30 : Fld Z h26 r0 "com/example/crosstie/crosstie/Failure" "where" "Ljava/lang/String;" (.ref r2) := F21.other W27 (Or.inr (slot_ne (Or.inr (hw _ (List.mem_of_getElem? (i := 29) rfl))) (Or.inr (hw _ (List.mem_of_getElem? (i := 31) rfl))) (by decide) (t := (.object "java/lang/String")) (t' := (.object "java/lang/String")) (by decide) (by decide)))
  have F31 : Fld Z h26 r0 "com/example/crosstie/crosstie/Failure" "explanation" "Ljava/lang/String;" (.ref r3) := F22.same W27
  have K32 : Keep h0 h26 [r0] := K23.wr W27 (Or.inl (List.mem_of_getElem? (i := 0) rfl))
  show own_Go _ _ _ _ (T24.setTop (mkF m 19 #[.val (.ref r0), .val (.ref r1), .val (.ref r2), .val (.ref r3)] []))
  refine own_retV A25 hx hret hlk (by decide) (by decide) (hb hby d2_19) ?_
  exact ⟨rfl, K32, F29, F30, F31⟩
theorem own_preS (xs : List Int32) (hb : xs.length < 2 ^ 31) : own_Pre (fun j => xs.getD j.toNatClampNeg 0) xs := fun k hk => by
  show xs.getD (Int32.ofNat k).toNatClampNeg 0 = _
  rw [own_toN (by omega)]
theorem own_bytL1 {x : Int32} (h : fits .byte (.int x) = true) : own_Byt (fun j => ([x] : List Int32).getD j.toNatClampNeg 0) ([x] : List Int32).length := fun k hk => by
  have : k = 0 := by simp at hk; omega
  subst this; exact h
theorem own_bytL2 {x y : Int32} (h : fits .byte (.int x) = true) (h' : fits .byte (.int y) = true) : own_Byt (fun j => ([x, y] : List Int32).getD j.toNatClampNeg 0) ([x, y] : List Int32).length := fun k hk => by
  have : k = 0 ∨ k = 1 := by simp at hk; omega
  rcases this with rfl | rfl
  · exact h
  · exact h'
theorem own_Pre.cut {f : Int32 → Int32} {xs : List Int32} (hp : own_Pre f xs) (hb : xs.length < 2 ^ 31) : own_Pre (own_cpf f 0 0 xs.length (fun _ => 0)) xs := fun k hk => by
  unfold own_cpf
  rw [own_toN (by omega), if_pos ⟨Nat.zero_le _, by omega⟩, Nat.zero_add, Nat.sub_zero]
  exact hp k hk
theorem ef_5 (m : MethodId) (r0 : Addr) : entryFrame m #[(.ref r0)] 1 = mkF m 0 #[.val (.ref r0)] [] := by first | (simp [entryFrame, mkF, argsToLocals, Value.category]; done) | rfl
theorem d5_0 : decode prog_4_method_2_code 0 = .ok (.new 19, 3) := by decide +kernel
theorem d5_3 : decode prog_4_method_2_code 3 = .ok (.dup, 1) := by decide +kernel
theorem d5_4 : decode prog_4_method_2_code 4 = .ok (.invokespecial 21, 3) := by decide +kernel
theorem d5_7 : decode prog_4_method_2_code 7 = .ok (.aload_n 0, 1) := by decide +kernel
theorem d5_8 : decode prog_4_method_2_code 8 = .ok (.getfield 7, 3) := by decide +kernel
theorem d5_11 : decode prog_4_method_2_code 11 = .ok (.invokevirtual 22, 3) := by decide +kernel
theorem pd__Ljava_lang_String__Ljava_lang_StringBuilder_ : parseMethodDescriptor "(Ljava/lang/String;)Ljava/lang/StringBuilder;" = some ⟨[(.object "java/lang/String")], some (.object "java/lang/StringBuilder")⟩ := by decide +kernel
theorem d5_14 : decode prog_4_method_2_code 14 = .ok (.ldc 26, 2) := by decide +kernel
theorem d5_16 : decode prog_4_method_2_code 16 = .ok (.invokevirtual 22, 3) := by decide +kernel
theorem d5_19 : decode prog_4_method_2_code 19 = .ok (.aload_n 0, 1) := by decide +kernel
theorem d5_20 : decode prog_4_method_2_code 20 = .ok (.getfield 13, 3) := by decide +kernel
theorem d5_23 : decode prog_4_method_2_code 23 = .ok (.invokevirtual 22, 3) := by decide +kernel
theorem d5_26 : decode prog_4_method_2_code 26 = .ok (.ldc 28, 2) := by decide +kernel
theorem d5_28 : decode prog_4_method_2_code 28 = .ok (.invokevirtual 22, 3) := by decide +kernel
theorem d5_31 : decode prog_4_method_2_code 31 = .ok (.aload_n 0, 1) := by decide +kernel
theorem d5_32 : decode prog_4_method_2_code 32 = .ok (.getfield 16, 3) := by decide +kernel
theorem d5_35 : decode prog_4_method_2_code 35 = .ok (.invokevirtual 22, 3) := by decide +kernel
theorem d5_38 : decode prog_4_method_2_code 38 = .ok (.invokevirtual 30, 3) := by decide +kernel
theorem pd___Ljava_lang_String_ : parseMethodDescriptor "()Ljava/lang/String;" = some ⟨[], some (.object "java/lang/String")⟩ := by decide +kernel
theorem d5_41 : decode prog_4_method_2_code 41 = .ok (.areturn, 1) := by decide +kernel
set_option maxRecDepth 65536 in
set_option maxHeartbeats 40000000 in
theorem rm5 (l : Launch) (Z : State) (a0 : Array Value) (hw : ∀ d ∈ tables_1, d.before a0 Z = true) (r0 : Addr) (z_C : Int32) (s1 : Addr) (t1 : Addr) (f1 : Int32 → Int32) (xs1 : List Int32) (s2 : Addr) (t2 : Addr) (f2 : Int32 → Int32) (xs2 : List Int32) (s3 : Addr) (t3 : Addr) (f3 : Int32 → Int32) (xs3 : List Int32) (h0 : Heap) (n0 : Nat) (O0 : Old Z n0 h0) (Z0 : n0 ≤ h0.size) (hz : ¬ z_C = 0) (S_COMPACT_STRINGS : Sta Z Z.heap "java/lang/String" "COMPACT_STRINGS" "Z" (.int z_C)) (E0 : Exa Z h0 r0 "com/example/crosstie/crosstie/Failure") (F0_rule : Fld Z h0 r0 "com/example/crosstie/crosstie/Failure" "rule" "Ljava/lang/String;" (.ref s1)) (E1 : Exa Z h0 s1 "java/lang/String") (Fc1 : Fld Z h0 s1 "java/lang/String" "coder" "B" (.int (0 : Int32))) (Fv1 : Fld Z h0 s1 "java/lang/String" "value" "[B" (.ref t1)) (V1 : own_Arr Z h0 t1 .byte (Int32.ofNat xs1.length) f1) (P1 : own_Pre f1 xs1) (Y1 : own_Byt f1 xs1.length) (l1 : xs1.length ≤ 2) (F0_where : Fld Z h0 r0 "com/example/crosstie/crosstie/Failure" "where" "Ljava/lang/String;" (.ref s2)) (E2 : Exa Z h0 s2 "java/lang/String") (Fc2 : Fld Z h0 s2 "java/lang/String" "coder" "B" (.int (0 : Int32))) (Fv2 : Fld Z h0 s2 "java/lang/String" "value" "[B" (.ref t2)) (V2 : own_Arr Z h0 t2 .byte (Int32.ofNat xs2.length) f2) (P2 : own_Pre f2 xs2) (Y2 : own_Byt f2 xs2.length) (l2 : xs2.length ≤ 2) (F0_explanation : Fld Z h0 r0 "com/example/crosstie/crosstie/Failure" "explanation" "Ljava/lang/String;" (.ref s3)) (E3 : Exa Z h0 s3 "java/lang/String") (Fc3 : Fld Z h0 s3 "java/lang/String" "coder" "B" (.int (0 : Int32))) (Fv3 : Fld Z h0 s3 "java/lang/String" "value" "[B" (.ref t3)) (V3 : own_Arr Z h0 t3 .byte (Int32.ofNat xs3.length) f3) (P3 : own_Pre f3 xs3) (Y3 : own_Byt f3 xs3.length) (l3 : xs3.length ≤ 2) :
    own_MetC l Z consts_1 n0 (⟨"com/example/crosstie/crosstie/Failure", "line", "()Ljava/lang/String;"⟩ : MethodName) prog_4_method_2_code 1 (some (.object "java/lang/String")) ({ frames := 6, cells := 8, slots := 64, locals := 113 } : Room) #[(.ref r0)] h0 (fun v h => Keep h0 h [] ∧ ∃ x t f, v = some (.ref x) ∧ Exa Z h x "java/lang/String" ∧ Fld Z h x "java/lang/String" "coder" "B" (.int (0 : Int32)) ∧ Fld Z h x "java/lang/String" "value" "[B" (.ref t) ∧ own_Arr Z h t .byte (Int32.ofNat (own_zs xs1 xs2 xs3).length) f ∧ own_Pre f (own_zs xs1 xs2 xs3)) := by
  refine own_metC (plainFor_of_name pn_2) ?_
  intro p e s m below meth c T0 hx hby hml hown hnm hret hlk hZ A0 hs0 hS C0
  have hEL := own_EW hw
  rw [ef_5]
  show own_Go _ _ _ _ (T0.setTop (mkF m 0 #[.val (.ref r0)] []))
  refine own_newO A0 hx hZ hown (hw _ (List.mem_of_getElem? (i := 37) rfl)) (hw _ (List.mem_of_getElem? (i := 38) rfl)) (hw _ (List.mem_of_getElem? (i := 39) rfl)) rfl (hb hby d5_0) (by decide) (by decide) (fun T1 h3 b4 ha_b4 A2 E5 X6 D7 => ?_)
  have ne_r0_b4 : r0 ≠ b4 := Nat.ne_of_lt (by rw [ha_b4]; exact E0.lt)
  have ne_s1_b4 : s1 ≠ b4 := Nat.ne_of_lt (by rw [ha_b4]; exact E1.lt)
  have ne_t1_b4 : t1 ≠ b4 := Nat.ne_of_lt (by rw [ha_b4]; exact V1.lt)
  have ne_s2_b4 : s2 ≠ b4 := Nat.ne_of_lt (by rw [ha_b4]; exact E2.lt)
  have ne_t2_b4 : t2 ≠ b4 := Nat.ne_of_lt (by rw [ha_b4]; exact V2.lt)
  have ne_s3_b4 : s3 ≠ b4 := Nat.ne_of_lt (by rw [ha_b4]; exact E3.lt)
  have ne_t3_b4 : t3 ≠ b4 := Nat.ne_of_lt (by rw [ha_b4]; exact V3.lt)
  have g_b4 : n0 ≤ b4 := by rw [ha_b4]; exact Z0
  have nw_b4 : h0.size ≤ b4 := by rw [ha_b4]; exact (Keep.refl h0 []).1
  have sf_b4 : Safe Z consts_1 s.vm h3 b4 := Safe.ext E5 C0.1 (Safe.new (Nat.le_of_eq ha_b4.symm))
  have C8 : CHr Z consts_1 s.vm h0 s.vm h3 := C0.trans (CHr.ext E5 C0.1)
  have Y9 : 0 ≤ h3.size := Nat.le_trans (Nat.zero_le _) E5.1
  have O10 : Old Z n0 h3 := O0.ext E5
  have Z11 : n0 ≤ h3.size := Nat.le_trans Z0 E5.1
  have K12 : Keep h0 h3 [] := (Keep.refl h0 []).ext E5
  have E13 : Exa Z h3 r0 "com/example/crosstie/crosstie/Failure" := E0.ext E5
  have F14 : Fld Z h3 r0 "com/example/crosstie/crosstie/Failure" "rule" "Ljava/lang/String;" (.ref s1) := F0_rule.ext E5
  have E15 : Exa Z h3 s1 "java/lang/String" := E1.ext E5
  have F16 : Fld Z h3 s1 "java/lang/String" "coder" "B" (.int (0 : Int32)) := Fc1.ext E5
  have F17 : Fld Z h3 s1 "java/lang/String" "value" "[B" (.ref t1) := Fv1.ext E5
  have V18 : own_Arr Z h3 t1 .byte (Int32.ofNat xs1.length) f1 := V1.ext E5
  have F19 : Fld Z h3 r0 "com/example/crosstie/crosstie/Failure" "where" "Ljava/lang/String;" (.ref s2) := F0_where.ext E5
  have E20 : Exa Z h3 s2 "java/lang/String" := E2.ext E5
  have F21 : Fld Z h3 s2 "java/lang/String" "coder" "B" (.int (0 : Int32)) := Fc2.ext E5
  have F22 : Fld Z h3 s2 "java/lang/String" "value" "[B" (.ref t2) := Fv2.ext E5
  have V23 : own_Arr Z h3 t2 .byte (Int32.ofNat xs2.length) f2 := V2.ext E5
  have F24 : Fld Z h3 r0 "com/example/crosstie/crosstie/Failure" "explanation" "Ljava/lang/String;" (.ref s3) := F0_explanation.ext E5
  have E25 : Exa Z h3 s3 "java/lang/String" := E3.ext E5
  have F26 : Fld Z h3 s3 "java/lang/String" "coder" "B" (.int (0 : Int32)) := Fc3.ext E5
  have F27 : Fld Z h3 s3 "java/lang/String" "value" "[B" (.ref t3) := Fv3.ext E5
  have V28 : own_Arr Z h3 t3 .byte (Int32.ofNat xs3.length) f3 := V3.ext E5
  have F29 : Fld Z h3 b4 "java/lang/AbstractStringBuilder" "value" "[B" .null := D7 (Or.inl (hw _ (List.mem_of_getElem? (i := 52) rfl))) (ty := (.array .byte)) (by decide)
  have F30 : Fld Z h3 b4 "java/lang/AbstractStringBuilder" "coder" "B" (.int (0 : Int32)) := D7 (Or.inl (hw _ (List.mem_of_getElem? (i := 54) rfl))) (ty := .byte) (by decide)
  have F31 : Fld Z h3 b4 "java/lang/AbstractStringBuilder" "count" "I" (.int (0 : Int32)) := D7 (Or.inl (hw _ (List.mem_of_getElem? (i := 79) rfl))) (ty := .int) (by decide)
  show own_Go _ _ _ _ (T1.setTop (mkF m 3 #[.val (.ref r0)] [(.ref b4)]))
  refine own_go (fun t_ k_ => XS.dup A2.here hx rfl (hb hby d5_3) rfl rfl k_) ?_
  show own_Go _ _ _ _ (T1.setTop (mkF m 4 #[.val (.ref r0)] [(.ref b4), (.ref b4)]))
  refine own_callI A2 hx hZ (y := (⟨"java/lang/StringBuilder", "<init>", "()V"⟩ : MethodName)) rfl hown (hw _ (List.mem_of_getElem? (i := 40) rfl)) (hw _ (List.mem_of_getElem? (i := 41) rfl)) (hw _ (List.mem_of_getElem? (i := 39) rfl)) (hw _ (List.mem_of_getElem? (i := 42) rfl)) (by decide) (b := b4) (argsL := []) (rest := [(.ref b4)]) (rm6 l Z a0 hw b4 z_C h3 n0 (S_COMPACT_STRINGS.ext O10.2) hz Z11 X6 F29 F30 F31 g_b4) 1 (by decide) (by decide) rfl (by rw [hml]; rfl) (lenOf pd___V rfl) rfl (by show 2 * 0 + _ ≤ _; exact Nat.le_of_eq rfl) (hb hby d5_4) (by decide) (by decide) (fun v35 T32 h34 A33 hQ36 => ?_)
  obtain ⟨rfl, K37, t38, gt39, nt40, F41, F42, F43, V44⟩ := hQ36
  have ne_r0_t38 : r0 ≠ t38 := Nat.ne_of_lt (Nat.lt_of_lt_of_le E13.lt nt40)
  have ne_s1_t38 : s1 ≠ t38 := Nat.ne_of_lt (Nat.lt_of_lt_of_le E15.lt nt40)
  have ne_t1_t38 : t1 ≠ t38 := Nat.ne_of_lt (Nat.lt_of_lt_of_le V18.lt nt40)
  have ne_s2_t38 : s2 ≠ t38 := Nat.ne_of_lt (Nat.lt_of_lt_of_le E20.lt nt40)
  have ne_t2_t38 : t2 ≠ t38 := Nat.ne_of_lt (Nat.lt_of_lt_of_le V23.lt nt40)
  have ne_s3_t38 : s3 ≠ t38 := Nat.ne_of_lt (Nat.lt_of_lt_of_le E25.lt nt40)
  have ne_t3_t38 : t3 ≠ t38 := Nat.ne_of_lt (Nat.lt_of_lt_of_le V28.lt nt40)
  have ne_b4_t38 : b4 ≠ t38 := Nat.ne_of_lt (Nat.lt_of_lt_of_le X6.lt nt40)
  have nw_t38 : h0.size ≤ t38 := Nat.le_trans K12.1 nt40
  have sf_t38 : Safe Z consts_1 s.vm h34 t38 := Safe.keep K37 (sfS sf_b4 sf0) C8.1 (Safe.new nt40)
  have C45 : CHr Z consts_1 s.vm h0 s.vm h34 := C8.trans (CHr.keep K37 (sfS sf_b4 sf0) C8.1)
  have Y46 : 0 ≤ h34.size := Nat.le_trans Y9 K37.1
  have O47 : Old Z n0 h34 := O10.keep K37 (allS g_b4 all0)
  have Z48 : n0 ≤ h34.size := Nat.le_trans Z11 K37.1
  have K49 : Keep h0 h34 [] := K12.trans K37 (allS (Or.inr nw_b4) all0)
  have E50 : Exa Z h34 r0 "com/example/crosstie/crosstie/Failure" := E13.keep K37
  have F51 : Fld Z h34 r0 "com/example/crosstie/crosstie/Failure" "rule" "Ljava/lang/String;" (.ref s1) := F14.keep K37 (ninS ne_r0_b4 nin0)
  have E52 : Exa Z h34 s1 "java/lang/String" := E15.keep K37
  have F53 : Fld Z h34 s1 "java/lang/String" "coder" "B" (.int (0 : Int32)) := F16.keep K37 (ninS ne_s1_b4 nin0)
  have F54 : Fld Z h34 s1 "java/lang/String" "value" "[B" (.ref t1) := F17.keep K37 (ninS ne_s1_b4 nin0)
  have V55 : own_Arr Z h34 t1 .byte (Int32.ofNat xs1.length) f1 := V18.keep K37 (ninS ne_t1_b4 nin0)
  have F56 : Fld Z h34 r0 "com/example/crosstie/crosstie/Failure" "where" "Ljava/lang/String;" (.ref s2) := F19.keep K37 (ninS ne_r0_b4 nin0)
  have E57 : Exa Z h34 s2 "java/lang/String" := E20.keep K37
  have F58 : Fld Z h34 s2 "java/lang/String" "coder" "B" (.int (0 : Int32)) := F21.keep K37 (ninS ne_s2_b4 nin0)
  have F59 : Fld Z h34 s2 "java/lang/String" "value" "[B" (.ref t2) := F22.keep K37 (ninS ne_s2_b4 nin0)
  have V60 : own_Arr Z h34 t2 .byte (Int32.ofNat xs2.length) f2 := V23.keep K37 (ninS ne_t2_b4 nin0)
  have F61 : Fld Z h34 r0 "com/example/crosstie/crosstie/Failure" "explanation" "Ljava/lang/String;" (.ref s3) := F24.keep K37 (ninS ne_r0_b4 nin0)
  have E62 : Exa Z h34 s3 "java/lang/String" := E25.keep K37
  have F63 : Fld Z h34 s3 "java/lang/String" "coder" "B" (.int (0 : Int32)) := F26.keep K37 (ninS ne_s3_b4 nin0)
  have F64 : Fld Z h34 s3 "java/lang/String" "value" "[B" (.ref t3) := F27.keep K37 (ninS ne_s3_b4 nin0)
  have V65 : own_Arr Z h34 t3 .byte (Int32.ofNat xs3.length) f3 := V28.keep K37 (ninS ne_t3_b4 nin0)
  have sf66 : Safe Z consts_1 s.vm h34 b4 := Safe.keep K37 (sfS sf_b4 sf0) C8.1 sf_b4
  have E67 : Exa Z h34 b4 "java/lang/StringBuilder" := X6.keep K37
  show own_Go _ _ _ _ (T32.setTop (mkF m 7 #[.val (.ref r0)] [(.ref b4)]))
  have Y0 : own_Byt (fun _ => (0 : Int32)) 16 := fun k hk => rfl
  refine own_go (fun t_ k_ => XS.aloadN A33.here hx rfl (hb hby d5_7) rfl rfl k_) ?_
  show own_Go _ _ _ _ (T32.setTop (mkF m 8 #[.val (.ref r0)] [(.ref r0), (.ref b4)]))
  refine own_getF A33 hx hZ hown (host := "") (Or.inl (hw _ (List.mem_of_getElem? (i := 26) rfl))) Via.refl F51 rfl rfl (hb hby d5_8) (fun T68 A69 => ?_)
  show own_Go _ _ _ _ (T68.setTop (mkF m 11 #[.val (.ref r0)] [(.ref s1), (.ref b4)]))
  have hf70 : ([] : List Int32).length + xs1.length ≤ 16 := by have a1 := (show ([] : List Int32).length ≤ 0 from Nat.le_refl _); have a2 := (show xs1.length ≤ 2 from l1); omega
  refine own_callV A69 hx hZ (y := (⟨"java/lang/StringBuilder", "append", "(Ljava/lang/String;)Ljava/lang/StringBuilder;"⟩ : MethodName)) (z := (⟨"java/lang/StringBuilder", "append", "(Ljava/lang/String;)Ljava/lang/StringBuilder;"⟩ : MethodName)) hown (hw _ (List.mem_of_getElem? (i := 55) rfl)) (hw _ (List.mem_of_getElem? (i := 56) rfl)) (hw _ (List.mem_of_getElem? (i := 58) rfl)) (hw _ (List.mem_of_getElem? (i := 57) rfl)) (hw _ (List.mem_of_getElem? (i := 39) rfl)) (hw _ (List.mem_of_getElem? (i := 59) rfl)) (notFace_of_selects (args := #[]) (mvT hZ (hw _ (List.mem_of_getElem? (i := 58) rfl)))) (by decide) (b := b4) (argsL := [(.ref s1)]) (rest := []) E67 (rm8 l Z a0 hw b4 s1 z_C t1 f1 xs1 (fun _ => 0) ([] : List Int32).length t38 h34 n0 (S_COMPACT_STRINGS.ext O47.2) hz E67 F41 F42 F43 V44 E52 F53 F54 V55 gt39 g_b4 (Ne.symm ne_b4_t38) (Ne.symm ne_s1_t38) (Ne.symm ne_t1_t38) (Ne.symm ne_s1_b4) (Ne.symm ne_t1_b4) Y1 Y0 hf70) 0 (by decide) (by decide) rfl (by rw [hml]; rfl) (lenOf pd__Ljava_lang_String__Ljava_lang_StringBuilder_ rfl) rfl (by show 2 * 0 + _ ≤ _; exact Nat.le_of_eq rfl) (hb hby d5_11) (by decide) (by decide) (fun v74 T71 h73 A72 hQ75 => ?_)
  obtain ⟨rfl, K76, F77, F78, F79, V80⟩ := hQ75
  have C81 : CHr Z consts_1 s.vm h0 s.vm h73 := C45.trans (CHr.keep K76 (sfS sf66 (sfS sf_t38 sf0)) C45.1)
  have Y82 : 0 ≤ h73.size := Nat.le_trans Y46 K76.1
  have O83 : Old Z n0 h73 := O47.keep K76 (allS g_b4 (allS gt39 all0))
  have Z84 : n0 ≤ h73.size := Nat.le_trans Z48 K76.1
  have K85 : Keep h0 h73 [] := K49.trans K76 (allS (Or.inr nw_b4) (allS (Or.inr nw_t38) all0))
  have E86 : Exa Z h73 r0 "com/example/crosstie/crosstie/Failure" := E50.keep K76
  have F87 : Fld Z h73 r0 "com/example/crosstie/crosstie/Failure" "rule" "Ljava/lang/String;" (.ref s1) := F51.keep K76 (ninS ne_r0_b4 (ninS ne_r0_t38 nin0))
  have E88 : Exa Z h73 s1 "java/lang/String" := E52.keep K76
  have F89 : Fld Z h73 s1 "java/lang/String" "coder" "B" (.int (0 : Int32)) := F53.keep K76 (ninS ne_s1_b4 (ninS ne_s1_t38 nin0))
  have F90 : Fld Z h73 s1 "java/lang/String" "value" "[B" (.ref t1) := F54.keep K76 (ninS ne_s1_b4 (ninS ne_s1_t38 nin0))
  have V91 : own_Arr Z h73 t1 .byte (Int32.ofNat xs1.length) f1 := V55.keep K76 (ninS ne_t1_b4 (ninS ne_t1_t38 nin0))
  have F92 : Fld Z h73 r0 "com/example/crosstie/crosstie/Failure" "where" "Ljava/lang/String;" (.ref s2) := F56.keep K76 (ninS ne_r0_b4 (ninS ne_r0_t38 nin0))
  have E93 : Exa Z h73 s2 "java/lang/String" := E57.keep K76
  have F94 : Fld Z h73 s2 "java/lang/String" "coder" "B" (.int (0 : Int32)) := F58.keep K76 (ninS ne_s2_b4 (ninS ne_s2_t38 nin0))
  have F95 : Fld Z h73 s2 "java/lang/String" "value" "[B" (.ref t2) := F59.keep K76 (ninS ne_s2_b4 (ninS ne_s2_t38 nin0))
  have V96 : own_Arr Z h73 t2 .byte (Int32.ofNat xs2.length) f2 := V60.keep K76 (ninS ne_t2_b4 (ninS ne_t2_t38 nin0))
  have F97 : Fld Z h73 r0 "com/example/crosstie/crosstie/Failure" "explanation" "Ljava/lang/String;" (.ref s3) := F61.keep K76 (ninS ne_r0_b4 (ninS ne_r0_t38 nin0))
  have E98 : Exa Z h73 s3 "java/lang/String" := E62.keep K76
  have F99 : Fld Z h73 s3 "java/lang/String" "coder" "B" (.int (0 : Int32)) := F63.keep K76 (ninS ne_s3_b4 (ninS ne_s3_t38 nin0))
  have F100 : Fld Z h73 s3 "java/lang/String" "value" "[B" (.ref t3) := F64.keep K76 (ninS ne_s3_b4 (ninS ne_s3_t38 nin0))
  have V101 : own_Arr Z h73 t3 .byte (Int32.ofNat xs3.length) f3 := V65.keep K76 (ninS ne_t3_b4 (ninS ne_t3_t38 nin0))
  have sf102 : Safe Z consts_1 s.vm h73 b4 := Safe.keep K76 (sfS sf66 (sfS sf_t38 sf0)) C45.1 sf66
  have E103 : Exa Z h73 b4 "java/lang/StringBuilder" := E67.keep K76
  have sf104 : Safe Z consts_1 s.vm h73 t38 := Safe.keep K76 (sfS sf66 (sfS sf_t38 sf0)) C45.1 sf_t38
  have P105 : own_Pre (own_cpf f1 0 ([] : List Int32).length xs1.length (fun _ => 0)) (([] : List Int32) ++ xs1) := own_Pre.app own_pre0 P1 (by have := hf70; omega)
  have Y106 : own_Byt (own_cpf f1 0 ([] : List Int32).length xs1.length (fun _ => 0)) 16 := own_Byt.cp Y0 Y1 (by omega) (by decide)
  have L107 : (([] : List Int32) ++ xs1).length ≤ 2 := by rw [List.length_append]; have a1 := (show ([] : List Int32).length ≤ 0 from Nat.le_refl _); have a2 := (show xs1.length ≤ 2 from l1); omega
  have F109 : Fld Z h73 b4 "java/lang/AbstractStringBuilder" "count" "I" (.int (Int32.ofNat (([] : List Int32) ++ xs1).length)) := by rw [List.length_append]; exact F79
  generalize (own_cpf f1 0 ([] : List Int32).length xs1.length (fun _ => 0)) = fz108 at V80 P105 Y106
  show own_Go _ _ _ _ (T71.setTop (mkF m 14 #[.val (.ref r0)] [(.ref b4)]))
  refine own_ldcC A72 hx hZ hown (hw _ (List.mem_of_getElem? (i := 105) rfl)) (own_wS hw) hEL (by decide) C81 hS Y82 (xs := [32]) (z := (1 : Int32)) ⟨by decide +kernel, by decide +kernel⟩ (by decide) rfl rfl (hb hby d5_14) 4 (by decide +kernel) (by decide) (by decide) (by decide) (fun T110 h112 b113 b114 vm115 k116 A111 E117 R118 hS119 hk120 hZ hown NE121 X122 F123 F124 V125 => ?_)
  have K126 : Keep h73 h112 [] := (Keep.refl _ _).ext E117
  have C127 : CHr Z consts_1 s.vm h0 vm115 h112 := C81.trans R118
  have O128 : Old Z n0 h112 := O83.keep K126 all0
  have Z129 : n0 ≤ h112.size := Nat.le_trans Z84 K126.1
  have K130 : Keep h0 h112 [] := K85.trans K126 all0
  have E131 : Exa Z h112 r0 "com/example/crosstie/crosstie/Failure" := E86.keep K126
  have F132 : Fld Z h112 r0 "com/example/crosstie/crosstie/Failure" "rule" "Ljava/lang/String;" (.ref s1) := F87.keep K126 nin0
  have E133 : Exa Z h112 s1 "java/lang/String" := E88.keep K126
  have F134 : Fld Z h112 s1 "java/lang/String" "coder" "B" (.int (0 : Int32)) := F89.keep K126 nin0
  have F135 : Fld Z h112 s1 "java/lang/String" "value" "[B" (.ref t1) := F90.keep K126 nin0
  have V136 : own_Arr Z h112 t1 .byte (Int32.ofNat xs1.length) f1 := V91.keep K126 nin0
  have F137 : Fld Z h112 r0 "com/example/crosstie/crosstie/Failure" "where" "Ljava/lang/String;" (.ref s2) := F92.keep K126 nin0
  have E138 : Exa Z h112 s2 "java/lang/String" := E93.keep K126
  have F139 : Fld Z h112 s2 "java/lang/String" "coder" "B" (.int (0 : Int32)) := F94.keep K126 nin0
  have F140 : Fld Z h112 s2 "java/lang/String" "value" "[B" (.ref t2) := F95.keep K126 nin0
  have V141 : own_Arr Z h112 t2 .byte (Int32.ofNat xs2.length) f2 := V96.keep K126 nin0
  have F142 : Fld Z h112 r0 "com/example/crosstie/crosstie/Failure" "explanation" "Ljava/lang/String;" (.ref s3) := F97.keep K126 nin0
  have E143 : Exa Z h112 s3 "java/lang/String" := E98.keep K126
  have F144 : Fld Z h112 s3 "java/lang/String" "coder" "B" (.int (0 : Int32)) := F99.keep K126 nin0
  have F145 : Fld Z h112 s3 "java/lang/String" "value" "[B" (.ref t3) := F100.keep K126 nin0
  have V146 : own_Arr Z h112 t3 .byte (Int32.ofNat xs3.length) f3 := V101.keep K126 nin0
  have sf147 : Safe Z consts_1 vm115 h112 b4 := R118.safe E103.lt sf102
  have E148 : Exa Z h112 b4 "java/lang/StringBuilder" := E103.keep K126
  have sf149 : Safe Z consts_1 vm115 h112 t38 := R118.safe V80.lt sf104
  have F150 : Fld Z h112 b4 "java/lang/AbstractStringBuilder" "value" "[B" (.ref t38) := F77.keep K126 nin0
  have F151 : Fld Z h112 b4 "java/lang/AbstractStringBuilder" "coder" "B" (.int (0 : Int32)) := F78.keep K126 nin0
  have F152 : Fld Z h112 b4 "java/lang/AbstractStringBuilder" "count" "I" (.int (Int32.ofNat (([] : List Int32) ++ xs1).length)) := F109.keep K126 nin0
  have V153 : own_Arr Z h112 t38 .byte (16 : Int32) fz108 := V80.keep K126 nin0
  obtain ⟨ne_b4_b113, ne_b4_b114⟩ := NE121 _ sf147
  obtain ⟨ne_t38_b113, ne_t38_b114⟩ := NE121 _ sf149
  show own_Go _ _ _ _ (T110.setTop (mkF m 16 #[.val (.ref r0)] [(.ref b113), (.ref b4)]))
  have hf154 : (([] : List Int32) ++ xs1).length + ([32] : List Int32).length ≤ 16 := by have a1 := L107; have a2 := (show ([32] : List Int32).length ≤ 1 from (Nat.le_refl 1)); omega
  refine own_callV A111 hx hZ (y := (⟨"java/lang/StringBuilder", "append", "(Ljava/lang/String;)Ljava/lang/StringBuilder;"⟩ : MethodName)) (z := (⟨"java/lang/StringBuilder", "append", "(Ljava/lang/String;)Ljava/lang/StringBuilder;"⟩ : MethodName)) hown (hw _ (List.mem_of_getElem? (i := 55) rfl)) (hw _ (List.mem_of_getElem? (i := 56) rfl)) (hw _ (List.mem_of_getElem? (i := 58) rfl)) (hw _ (List.mem_of_getElem? (i := 57) rfl)) (hw _ (List.mem_of_getElem? (i := 39) rfl)) (hw _ (List.mem_of_getElem? (i := 59) rfl)) (notFace_of_selects (args := #[]) (mvT hZ (hw _ (List.mem_of_getElem? (i := 58) rfl)))) (by decide) (b := b4) (argsL := [(.ref b113)]) (rest := []) E148 (rm8 l Z a0 hw b4 b113 z_C b114 (fun j => ([32] : List Int32).getD j.toNatClampNeg 0) ([32] : List Int32) fz108 (([] : List Int32) ++ xs1).length t38 h112 n0 (S_COMPACT_STRINGS.ext O128.2) hz E148 F150 F151 F152 V153 X122 F123 F124 V125 gt39 g_b4 (Ne.symm ne_b4_t38) ne_t38_b113 ne_t38_b114 ne_b4_b113 ne_b4_b114 (own_bytL1 (by decide +kernel)) Y106 hf154) 0 (by decide) (by decide) rfl (by rw [hml]; rfl) (lenOf pd__Ljava_lang_String__Ljava_lang_StringBuilder_ rfl) rfl (by show 2 * 0 + _ ≤ _; exact Nat.le_of_eq rfl) (hb hby d5_16) (by decide) (by decide) (fun v158 T155 h157 A156 hQ159 => ?_)
  obtain ⟨rfl, K160, F161, F162, F163, V164⟩ := hQ159
  have C165 : CHr Z consts_1 s.vm h0 vm115 h157 := C127.trans (CHr.keep K160 (sfS sf147 (sfS sf149 sf0)) C127.1)
  have O166 : Old Z n0 h157 := O128.keep K160 (allS g_b4 (allS gt39 all0))
  have Z167 : n0 ≤ h157.size := Nat.le_trans Z129 K160.1
  have K168 : Keep h0 h157 [] := K130.trans K160 (allS (Or.inr nw_b4) (allS (Or.inr nw_t38) all0))
  have E169 : Exa Z h157 r0 "com/example/crosstie/crosstie/Failure" := E131.keep K160
  have F170 : Fld Z h157 r0 "com/example/crosstie/crosstie/Failure" "rule" "Ljava/lang/String;" (.ref s1) := F132.keep K160 (ninS ne_r0_b4 (ninS ne_r0_t38 nin0))
  have E171 : Exa Z h157 s1 "java/lang/String" := E133.keep K160
  have F172 : Fld Z h157 s1 "java/lang/String" "coder" "B" (.int (0 : Int32)) := F134.keep K160 (ninS ne_s1_b4 (ninS ne_s1_t38 nin0))
  have F173 : Fld Z h157 s1 "java/lang/String" "value" "[B" (.ref t1) := F135.keep K160 (ninS ne_s1_b4 (ninS ne_s1_t38 nin0))
  have V174 : own_Arr Z h157 t1 .byte (Int32.ofNat xs1.length) f1 := V136.keep K160 (ninS ne_t1_b4 (ninS ne_t1_t38 nin0))
  have F175 : Fld Z h157 r0 "com/example/crosstie/crosstie/Failure" "where" "Ljava/lang/String;" (.ref s2) := F137.keep K160 (ninS ne_r0_b4 (ninS ne_r0_t38 nin0))
  have E176 : Exa Z h157 s2 "java/lang/String" := E138.keep K160
  have F177 : Fld Z h157 s2 "java/lang/String" "coder" "B" (.int (0 : Int32)) := F139.keep K160 (ninS ne_s2_b4 (ninS ne_s2_t38 nin0))
  have F178 : Fld Z h157 s2 "java/lang/String" "value" "[B" (.ref t2) := F140.keep K160 (ninS ne_s2_b4 (ninS ne_s2_t38 nin0))
  have V179 : own_Arr Z h157 t2 .byte (Int32.ofNat xs2.length) f2 := V141.keep K160 (ninS ne_t2_b4 (ninS ne_t2_t38 nin0))
  have F180 : Fld Z h157 r0 "com/example/crosstie/crosstie/Failure" "explanation" "Ljava/lang/String;" (.ref s3) := F142.keep K160 (ninS ne_r0_b4 (ninS ne_r0_t38 nin0))
  have E181 : Exa Z h157 s3 "java/lang/String" := E143.keep K160
  have F182 : Fld Z h157 s3 "java/lang/String" "coder" "B" (.int (0 : Int32)) := F144.keep K160 (ninS ne_s3_b4 (ninS ne_s3_t38 nin0))
  have F183 : Fld Z h157 s3 "java/lang/String" "value" "[B" (.ref t3) := F145.keep K160 (ninS ne_s3_b4 (ninS ne_s3_t38 nin0))
  have V184 : own_Arr Z h157 t3 .byte (Int32.ofNat xs3.length) f3 := V146.keep K160 (ninS ne_t3_b4 (ninS ne_t3_t38 nin0))
  have sf185 : Safe Z consts_1 vm115 h157 b4 := Safe.keep K160 (sfS sf147 (sfS sf149 sf0)) C127.1 sf147
  have E186 : Exa Z h157 b4 "java/lang/StringBuilder" := E148.keep K160
  have sf187 : Safe Z consts_1 vm115 h157 t38 := Safe.keep K160 (sfS sf147 (sfS sf149 sf0)) C127.1 sf149
  have Y188 : k116 ≤ h157.size := Nat.le_trans hk120 K160.1
  have E189 : Exa Z h157 b113 "java/lang/String" := X122.keep K160
  have F190 : Fld Z h157 b113 "java/lang/String" "coder" "B" (.int (0 : Int32)) := F123.keep K160 (ninS (Ne.symm ne_b4_b113) (ninS (Ne.symm ne_t38_b113) nin0))
  have F191 : Fld Z h157 b113 "java/lang/String" "value" "[B" (.ref b114) := F124.keep K160 (ninS (Ne.symm ne_b4_b113) (ninS (Ne.symm ne_t38_b113) nin0))
  have V192 : own_Arr Z h157 b114 .byte (1 : Int32) (fun j => ([32] : List Int32).getD j.toNatClampNeg 0) := V125.keep K160 (ninS (Ne.symm ne_b4_b114) (ninS (Ne.symm ne_t38_b114) nin0))
  have P193 : own_Pre (own_cpf (fun j => ([32] : List Int32).getD j.toNatClampNeg 0) 0 (([] : List Int32) ++ xs1).length ([32] : List Int32).length fz108) ((([] : List Int32) ++ xs1) ++ ([32] : List Int32)) := own_Pre.app P105 (own_preS _ (by decide)) (by have := hf154; omega)
  have Y194 : own_Byt (own_cpf (fun j => ([32] : List Int32).getD j.toNatClampNeg 0) 0 (([] : List Int32) ++ xs1).length ([32] : List Int32).length fz108) 16 := own_Byt.cp Y106 (own_bytL1 (by decide +kernel)) (by omega) (by decide)
  have L195 : ((([] : List Int32) ++ xs1) ++ ([32] : List Int32)).length ≤ 3 := by rw [List.length_append]; have a1 := L107; have a2 := (show ([32] : List Int32).length ≤ 1 from (Nat.le_refl 1)); omega
  have F197 : Fld Z h157 b4 "java/lang/AbstractStringBuilder" "count" "I" (.int (Int32.ofNat ((([] : List Int32) ++ xs1) ++ ([32] : List Int32)).length)) := by rw [List.length_append]; exact F163
  generalize (own_cpf (fun j => ([32] : List Int32).getD j.toNatClampNeg 0) 0 (([] : List Int32) ++ xs1).length ([32] : List Int32).length fz108) = fz196 at V164 P193 Y194
  show own_Go _ _ _ _ (T155.setTop (mkF m 19 #[.val (.ref r0)] [(.ref b4)]))
  refine own_go (fun t_ k_ => XS.aloadN A156.here hx rfl (hb hby d5_19) rfl rfl k_) ?_
  show own_Go _ _ _ _ (T155.setTop (mkF m 20 #[.val (.ref r0)] [(.ref r0), (.ref b4)]))
  refine own_getF A156 hx hZ hown (host := "") (Or.inl (hw _ (List.mem_of_getElem? (i := 28) rfl))) Via.refl F175 rfl rfl (hb hby d5_20) (fun T198 A199 => ?_)
  show own_Go _ _ _ _ (T198.setTop (mkF m 23 #[.val (.ref r0)] [(.ref s2), (.ref b4)]))
  have hf200 : ((([] : List Int32) ++ xs1) ++ ([32] : List Int32)).length + xs2.length ≤ 16 := by have a1 := L195; have a2 := (show xs2.length ≤ 2 from l2); omega
  refine own_callV A199 hx hZ (y := (⟨"java/lang/StringBuilder", "append", "(Ljava/lang/String;)Ljava/lang/StringBuilder;"⟩ : MethodName)) (z := (⟨"java/lang/StringBuilder", "append", "(Ljava/lang/String;)Ljava/lang/StringBuilder;"⟩ : MethodName)) hown (hw _ (List.mem_of_getElem? (i := 55) rfl)) (hw _ (List.mem_of_getElem? (i := 56) rfl)) (hw _ (List.mem_of_getElem? (i := 58) rfl)) (hw _ (List.mem_of_getElem? (i := 57) rfl)) (hw _ (List.mem_of_getElem? (i := 39) rfl)) (hw _ (List.mem_of_getElem? (i := 59) rfl)) (notFace_of_selects (args := #[]) (mvT hZ (hw _ (List.mem_of_getElem? (i := 58) rfl)))) (by decide) (b := b4) (argsL := [(.ref s2)]) (rest := []) E186 (rm8 l Z a0 hw b4 s2 z_C t2 f2 xs2 fz196 ((([] : List Int32) ++ xs1) ++ ([32] : List Int32)).length t38 h157 n0 (S_COMPACT_STRINGS.ext O166.2) hz E186 F161 F162 F197 V164 E176 F177 F178 V179 gt39 g_b4 (Ne.symm ne_b4_t38) (Ne.symm ne_s2_t38) (Ne.symm ne_t2_t38) (Ne.symm ne_s2_b4) (Ne.symm ne_t2_b4) Y2 Y194 hf200) 0 (by decide) (by decide) rfl (by rw [hml]; rfl) (lenOf pd__Ljava_lang_String__Ljava_lang_StringBuilder_ rfl) rfl (by show 2 * 0 + _ ≤ _; exact Nat.le_of_eq rfl) (hb hby d5_23) (by decide) (by decide) (fun v204 T201 h203 A202 hQ205 => ?_)
  obtain ⟨rfl, K206, F207, F208, F209, V210⟩ := hQ205
  have C211 : CHr Z consts_1 s.vm h0 vm115 h203 := C165.trans (CHr.keep K206 (sfS sf185 (sfS sf187 sf0)) C165.1)
  have O212 : Old Z n0 h203 := O166.keep K206 (allS g_b4 (allS gt39 all0))
  have Z213 : n0 ≤ h203.size := Nat.le_trans Z167 K206.1
  have K214 : Keep h0 h203 [] := K168.trans K206 (allS (Or.inr nw_b4) (allS (Or.inr nw_t38) all0))
  have E215 : Exa Z h203 r0 "com/example/crosstie/crosstie/Failure" := E169.keep K206
  have F216 : Fld Z h203 r0 "com/example/crosstie/crosstie/Failure" "rule" "Ljava/lang/String;" (.ref s1) := F170.keep K206 (ninS ne_r0_b4 (ninS ne_r0_t38 nin0))
  have E217 : Exa Z h203 s1 "java/lang/String" := E171.keep K206
  have F218 : Fld Z h203 s1 "java/lang/String" "coder" "B" (.int (0 : Int32)) := F172.keep K206 (ninS ne_s1_b4 (ninS ne_s1_t38 nin0))
  have F219 : Fld Z h203 s1 "java/lang/String" "value" "[B" (.ref t1) := F173.keep K206 (ninS ne_s1_b4 (ninS ne_s1_t38 nin0))
  have V220 : own_Arr Z h203 t1 .byte (Int32.ofNat xs1.length) f1 := V174.keep K206 (ninS ne_t1_b4 (ninS ne_t1_t38 nin0))
  have F221 : Fld Z h203 r0 "com/example/crosstie/crosstie/Failure" "where" "Ljava/lang/String;" (.ref s2) := F175.keep K206 (ninS ne_r0_b4 (ninS ne_r0_t38 nin0))
  have E222 : Exa Z h203 s2 "java/lang/String" := E176.keep K206
  have F223 : Fld Z h203 s2 "java/lang/String" "coder" "B" (.int (0 : Int32)) := F177.keep K206 (ninS ne_s2_b4 (ninS ne_s2_t38 nin0))
  have F224 : Fld Z h203 s2 "java/lang/String" "value" "[B" (.ref t2) := F178.keep K206 (ninS ne_s2_b4 (ninS ne_s2_t38 nin0))
  have V225 : own_Arr Z h203 t2 .byte (Int32.ofNat xs2.length) f2 := V179.keep K206 (ninS ne_t2_b4 (ninS ne_t2_t38 nin0))
  have F226 : Fld Z h203 r0 "com/example/crosstie/crosstie/Failure" "explanation" "Ljava/lang/String;" (.ref s3) := F180.keep K206 (ninS ne_r0_b4 (ninS ne_r0_t38 nin0))
  have E227 : Exa Z h203 s3 "java/lang/String" := E181.keep K206
  have F228 : Fld Z h203 s3 "java/lang/String" "coder" "B" (.int (0 : Int32)) := F182.keep K206 (ninS ne_s3_b4 (ninS ne_s3_t38 nin0))
  have F229 : Fld Z h203 s3 "java/lang/String" "value" "[B" (.ref t3) := F183.keep K206 (ninS ne_s3_b4 (ninS ne_s3_t38 nin0))
  have V230 : own_Arr Z h203 t3 .byte (Int32.ofNat xs3.length) f3 := V184.keep K206 (ninS ne_t3_b4 (ninS ne_t3_t38 nin0))
  have sf231 : Safe Z consts_1 vm115 h203 b4 := Safe.keep K206 (sfS sf185 (sfS sf187 sf0)) C165.1 sf185
  have E232 : Exa Z h203 b4 "java/lang/StringBuilder" := E186.keep K206
  have sf233 : Safe Z consts_1 vm115 h203 t38 := Safe.keep K206 (sfS sf185 (sfS sf187 sf0)) C165.1 sf187
  have Y234 : k116 ≤ h203.size := Nat.le_trans Y188 K206.1
  have E235 : Exa Z h203 b113 "java/lang/String" := E189.keep K206
  have F236 : Fld Z h203 b113 "java/lang/String" "coder" "B" (.int (0 : Int32)) := F190.keep K206 (ninS (Ne.symm ne_b4_b113) (ninS (Ne.symm ne_t38_b113) nin0))
  have F237 : Fld Z h203 b113 "java/lang/String" "value" "[B" (.ref b114) := F191.keep K206 (ninS (Ne.symm ne_b4_b113) (ninS (Ne.symm ne_t38_b113) nin0))
  have V238 : own_Arr Z h203 b114 .byte (1 : Int32) (fun j => ([32] : List Int32).getD j.toNatClampNeg 0) := V192.keep K206 (ninS (Ne.symm ne_b4_b114) (ninS (Ne.symm ne_t38_b114) nin0))
  have P239 : own_Pre (own_cpf f2 0 ((([] : List Int32) ++ xs1) ++ ([32] : List Int32)).length xs2.length fz196) (((([] : List Int32) ++ xs1) ++ ([32] : List Int32)) ++ xs2) := own_Pre.app P193 P2 (by have := hf200; omega)
  have Y240 : own_Byt (own_cpf f2 0 ((([] : List Int32) ++ xs1) ++ ([32] : List Int32)).length xs2.length fz196) 16 := own_Byt.cp Y194 Y2 (by omega) (by decide)
  have L241 : (((([] : List Int32) ++ xs1) ++ ([32] : List Int32)) ++ xs2).length ≤ 5 := by rw [List.length_append]; have a1 := L195; have a2 := (show xs2.length ≤ 2 from l2); omega
  have F243 : Fld Z h203 b4 "java/lang/AbstractStringBuilder" "count" "I" (.int (Int32.ofNat (((([] : List Int32) ++ xs1) ++ ([32] : List Int32)) ++ xs2).length)) := by rw [List.length_append]; exact F209
  generalize (own_cpf f2 0 ((([] : List Int32) ++ xs1) ++ ([32] : List Int32)).length xs2.length fz196) = fz242 at V210 P239 Y240
  show own_Go _ _ _ _ (T201.setTop (mkF m 26 #[.val (.ref r0)] [(.ref b4)]))
  refine own_ldcC A202 hx hZ hown (hw _ (List.mem_of_getElem? (i := 106) rfl)) (own_wS hw) hEL (by decide) C211 hS119 Y234 (xs := [58, 32]) (z := (2 : Int32)) ⟨by decide +kernel, by decide +kernel⟩ (by decide) rfl rfl (hb hby d5_26) 8 (by decide +kernel) (by decide) (by decide) (by decide) (fun T244 h246 b247 b248 vm249 k250 A245 E251 R252 hS253 hk254 hZ hown NE255 X256 F257 F258 V259 => ?_)
  have K260 : Keep h203 h246 [] := (Keep.refl _ _).ext E251
  have C261 : CHr Z consts_1 s.vm h0 vm249 h246 := C211.trans R252
  have O262 : Old Z n0 h246 := O212.keep K260 all0
  have Z263 : n0 ≤ h246.size := Nat.le_trans Z213 K260.1
  have K264 : Keep h0 h246 [] := K214.trans K260 all0
  have E265 : Exa Z h246 r0 "com/example/crosstie/crosstie/Failure" := E215.keep K260
  have F266 : Fld Z h246 r0 "com/example/crosstie/crosstie/Failure" "rule" "Ljava/lang/String;" (.ref s1) := F216.keep K260 nin0
  have E267 : Exa Z h246 s1 "java/lang/String" := E217.keep K260
  have F268 : Fld Z h246 s1 "java/lang/String" "coder" "B" (.int (0 : Int32)) := F218.keep K260 nin0
  have F269 : Fld Z h246 s1 "java/lang/String" "value" "[B" (.ref t1) := F219.keep K260 nin0
  have V270 : own_Arr Z h246 t1 .byte (Int32.ofNat xs1.length) f1 := V220.keep K260 nin0
  have F271 : Fld Z h246 r0 "com/example/crosstie/crosstie/Failure" "where" "Ljava/lang/String;" (.ref s2) := F221.keep K260 nin0
  have E272 : Exa Z h246 s2 "java/lang/String" := E222.keep K260
  have F273 : Fld Z h246 s2 "java/lang/String" "coder" "B" (.int (0 : Int32)) := F223.keep K260 nin0
  have F274 : Fld Z h246 s2 "java/lang/String" "value" "[B" (.ref t2) := F224.keep K260 nin0
  have V275 : own_Arr Z h246 t2 .byte (Int32.ofNat xs2.length) f2 := V225.keep K260 nin0
  have F276 : Fld Z h246 r0 "com/example/crosstie/crosstie/Failure" "explanation" "Ljava/lang/String;" (.ref s3) := F226.keep K260 nin0
  have E277 : Exa Z h246 s3 "java/lang/String" := E227.keep K260
  have F278 : Fld Z h246 s3 "java/lang/String" "coder" "B" (.int (0 : Int32)) := F228.keep K260 nin0
  have F279 : Fld Z h246 s3 "java/lang/String" "value" "[B" (.ref t3) := F229.keep K260 nin0
  have V280 : own_Arr Z h246 t3 .byte (Int32.ofNat xs3.length) f3 := V230.keep K260 nin0
  have sf281 : Safe Z consts_1 vm249 h246 b4 := R252.safe E232.lt sf231
  have E282 : Exa Z h246 b4 "java/lang/StringBuilder" := E232.keep K260
  have sf283 : Safe Z consts_1 vm249 h246 t38 := R252.safe V210.lt sf233
  have E284 : Exa Z h246 b113 "java/lang/String" := E235.keep K260
  have F285 : Fld Z h246 b113 "java/lang/String" "coder" "B" (.int (0 : Int32)) := F236.keep K260 nin0
  have F286 : Fld Z h246 b113 "java/lang/String" "value" "[B" (.ref b114) := F237.keep K260 nin0
  have V287 : own_Arr Z h246 b114 .byte (1 : Int32) (fun j => ([32] : List Int32).getD j.toNatClampNeg 0) := V238.keep K260 nin0
  have F288 : Fld Z h246 b4 "java/lang/AbstractStringBuilder" "value" "[B" (.ref t38) := F207.keep K260 nin0
  have F289 : Fld Z h246 b4 "java/lang/AbstractStringBuilder" "coder" "B" (.int (0 : Int32)) := F208.keep K260 nin0
  have F290 : Fld Z h246 b4 "java/lang/AbstractStringBuilder" "count" "I" (.int (Int32.ofNat (((([] : List Int32) ++ xs1) ++ ([32] : List Int32)) ++ xs2).length)) := F243.keep K260 nin0
  have V291 : own_Arr Z h246 t38 .byte (16 : Int32) fz242 := V210.keep K260 nin0
  obtain ⟨ne_b4_b247, ne_b4_b248⟩ := NE255 _ sf281
  obtain ⟨ne_t38_b247, ne_t38_b248⟩ := NE255 _ sf283
  show own_Go _ _ _ _ (T244.setTop (mkF m 28 #[.val (.ref r0)] [(.ref b247), (.ref b4)]))
  have hf292 : (((([] : List Int32) ++ xs1) ++ ([32] : List Int32)) ++ xs2).length + ([58, 32] : List Int32).length ≤ 16 := by have a1 := L241; have a2 := (show ([58, 32] : List Int32).length ≤ 2 from (Nat.le_refl 2)); omega
  refine own_callV A245 hx hZ (y := (⟨"java/lang/StringBuilder", "append", "(Ljava/lang/String;)Ljava/lang/StringBuilder;"⟩ : MethodName)) (z := (⟨"java/lang/StringBuilder", "append", "(Ljava/lang/String;)Ljava/lang/StringBuilder;"⟩ : MethodName)) hown (hw _ (List.mem_of_getElem? (i := 55) rfl)) (hw _ (List.mem_of_getElem? (i := 56) rfl)) (hw _ (List.mem_of_getElem? (i := 58) rfl)) (hw _ (List.mem_of_getElem? (i := 57) rfl)) (hw _ (List.mem_of_getElem? (i := 39) rfl)) (hw _ (List.mem_of_getElem? (i := 59) rfl)) (notFace_of_selects (args := #[]) (mvT hZ (hw _ (List.mem_of_getElem? (i := 58) rfl)))) (by decide) (b := b4) (argsL := [(.ref b247)]) (rest := []) E282 (rm8 l Z a0 hw b4 b247 z_C b248 (fun j => ([58, 32] : List Int32).getD j.toNatClampNeg 0) ([58, 32] : List Int32) fz242 (((([] : List Int32) ++ xs1) ++ ([32] : List Int32)) ++ xs2).length t38 h246 n0 (S_COMPACT_STRINGS.ext O262.2) hz E282 F288 F289 F290 V291 X256 F257 F258 V259 gt39 g_b4 (Ne.symm ne_b4_t38) ne_t38_b247 ne_t38_b248 ne_b4_b247 ne_b4_b248 (own_bytL2 (by decide +kernel) (by decide +kernel)) Y240 hf292) 0 (by decide) (by decide) rfl (by rw [hml]; rfl) (lenOf pd__Ljava_lang_String__Ljava_lang_StringBuilder_ rfl) rfl (by show 2 * 0 + _ ≤ _; exact Nat.le_of_eq rfl) (hb hby d5_28) (by decide) (by decide) (fun v296 T293 h295 A294 hQ297 => ?_)
  obtain ⟨rfl, K298, F299, F300, F301, V302⟩ := hQ297
  have C303 : CHr Z consts_1 s.vm h0 vm249 h295 := C261.trans (CHr.keep K298 (sfS sf281 (sfS sf283 sf0)) C261.1)
  have O304 : Old Z n0 h295 := O262.keep K298 (allS g_b4 (allS gt39 all0))
  have Z305 : n0 ≤ h295.size := Nat.le_trans Z263 K298.1
  have K306 : Keep h0 h295 [] := K264.trans K298 (allS (Or.inr nw_b4) (allS (Or.inr nw_t38) all0))
  have E307 : Exa Z h295 r0 "com/example/crosstie/crosstie/Failure" := E265.keep K298
  have F308 : Fld Z h295 r0 "com/example/crosstie/crosstie/Failure" "rule" "Ljava/lang/String;" (.ref s1) := F266.keep K298 (ninS ne_r0_b4 (ninS ne_r0_t38 nin0))
  have E309 : Exa Z h295 s1 "java/lang/String" := E267.keep K298
  have F310 : Fld Z h295 s1 "java/lang/String" "coder" "B" (.int (0 : Int32)) := F268.keep K298 (ninS ne_s1_b4 (ninS ne_s1_t38 nin0))
  have F311 : Fld Z h295 s1 "java/lang/String" "value" "[B" (.ref t1) := F269.keep K298 (ninS ne_s1_b4 (ninS ne_s1_t38 nin0))
  have V312 : own_Arr Z h295 t1 .byte (Int32.ofNat xs1.length) f1 := V270.keep K298 (ninS ne_t1_b4 (ninS ne_t1_t38 nin0))
  have F313 : Fld Z h295 r0 "com/example/crosstie/crosstie/Failure" "where" "Ljava/lang/String;" (.ref s2) := F271.keep K298 (ninS ne_r0_b4 (ninS ne_r0_t38 nin0))
  have E314 : Exa Z h295 s2 "java/lang/String" := E272.keep K298
  have F315 : Fld Z h295 s2 "java/lang/String" "coder" "B" (.int (0 : Int32)) := F273.keep K298 (ninS ne_s2_b4 (ninS ne_s2_t38 nin0))
  have F316 : Fld Z h295 s2 "java/lang/String" "value" "[B" (.ref t2) := F274.keep K298 (ninS ne_s2_b4 (ninS ne_s2_t38 nin0))
  have V317 : own_Arr Z h295 t2 .byte (Int32.ofNat xs2.length) f2 := V275.keep K298 (ninS ne_t2_b4 (ninS ne_t2_t38 nin0))
  have F318 : Fld Z h295 r0 "com/example/crosstie/crosstie/Failure" "explanation" "Ljava/lang/String;" (.ref s3) := F276.keep K298 (ninS ne_r0_b4 (ninS ne_r0_t38 nin0))
  have E319 : Exa Z h295 s3 "java/lang/String" := E277.keep K298
  have F320 : Fld Z h295 s3 "java/lang/String" "coder" "B" (.int (0 : Int32)) := F278.keep K298 (ninS ne_s3_b4 (ninS ne_s3_t38 nin0))
  have F321 : Fld Z h295 s3 "java/lang/String" "value" "[B" (.ref t3) := F279.keep K298 (ninS ne_s3_b4 (ninS ne_s3_t38 nin0))
  have V322 : own_Arr Z h295 t3 .byte (Int32.ofNat xs3.length) f3 := V280.keep K298 (ninS ne_t3_b4 (ninS ne_t3_t38 nin0))
  have sf323 : Safe Z consts_1 vm249 h295 b4 := Safe.keep K298 (sfS sf281 (sfS sf283 sf0)) C261.1 sf281
  have E324 : Exa Z h295 b4 "java/lang/StringBuilder" := E282.keep K298
  have sf325 : Safe Z consts_1 vm249 h295 t38 := Safe.keep K298 (sfS sf281 (sfS sf283 sf0)) C261.1 sf283
  have E326 : Exa Z h295 b113 "java/lang/String" := E284.keep K298
  have F327 : Fld Z h295 b113 "java/lang/String" "coder" "B" (.int (0 : Int32)) := F285.keep K298 (ninS (Ne.symm ne_b4_b113) (ninS (Ne.symm ne_t38_b113) nin0))
  have F328 : Fld Z h295 b113 "java/lang/String" "value" "[B" (.ref b114) := F286.keep K298 (ninS (Ne.symm ne_b4_b113) (ninS (Ne.symm ne_t38_b113) nin0))
  have V329 : own_Arr Z h295 b114 .byte (1 : Int32) (fun j => ([32] : List Int32).getD j.toNatClampNeg 0) := V287.keep K298 (ninS (Ne.symm ne_b4_b114) (ninS (Ne.symm ne_t38_b114) nin0))
  have Y330 : k250 ≤ h295.size := Nat.le_trans hk254 K298.1
  have E331 : Exa Z h295 b247 "java/lang/String" := X256.keep K298
  have F332 : Fld Z h295 b247 "java/lang/String" "coder" "B" (.int (0 : Int32)) := F257.keep K298 (ninS (Ne.symm ne_b4_b247) (ninS (Ne.symm ne_t38_b247) nin0))
  have F333 : Fld Z h295 b247 "java/lang/String" "value" "[B" (.ref b248) := F258.keep K298 (ninS (Ne.symm ne_b4_b247) (ninS (Ne.symm ne_t38_b247) nin0))
  have V334 : own_Arr Z h295 b248 .byte (2 : Int32) (fun j => ([58, 32] : List Int32).getD j.toNatClampNeg 0) := V259.keep K298 (ninS (Ne.symm ne_b4_b248) (ninS (Ne.symm ne_t38_b248) nin0))
  have P335 : own_Pre (own_cpf (fun j => ([58, 32] : List Int32).getD j.toNatClampNeg 0) 0 (((([] : List Int32) ++ xs1) ++ ([32] : List Int32)) ++ xs2).length ([58, 32] : List Int32).length fz242) ((((([] : List Int32) ++ xs1) ++ ([32] : List Int32)) ++ xs2) ++ ([58, 32] : List Int32)) := own_Pre.app P239 (own_preS _ (by decide)) (by have := hf292; omega)
  have Y336 : own_Byt (own_cpf (fun j => ([58, 32] : List Int32).getD j.toNatClampNeg 0) 0 (((([] : List Int32) ++ xs1) ++ ([32] : List Int32)) ++ xs2).length ([58, 32] : List Int32).length fz242) 16 := own_Byt.cp Y240 (own_bytL2 (by decide +kernel) (by decide +kernel)) (by omega) (by decide)
  have L337 : ((((([] : List Int32) ++ xs1) ++ ([32] : List Int32)) ++ xs2) ++ ([58, 32] : List Int32)).length ≤ 7 := by rw [List.length_append]; have a1 := L241; have a2 := (show ([58, 32] : List Int32).length ≤ 2 from (Nat.le_refl 2)); omega
  have F339 : Fld Z h295 b4 "java/lang/AbstractStringBuilder" "count" "I" (.int (Int32.ofNat ((((([] : List Int32) ++ xs1) ++ ([32] : List Int32)) ++ xs2) ++ ([58, 32] : List Int32)).length)) := by rw [List.length_append]; exact F301
  generalize (own_cpf (fun j => ([58, 32] : List Int32).getD j.toNatClampNeg 0) 0 (((([] : List Int32) ++ xs1) ++ ([32] : List Int32)) ++ xs2).length ([58, 32] : List Int32).length fz242) = fz338 at V302 P335 Y336
  show own_Go _ _ _ _ (T293.setTop (mkF m 31 #[.val (.ref r0)] [(.ref b4)]))
  refine own_go (fun t_ k_ => XS.aloadN A294.here hx rfl (hb hby d5_31) rfl rfl k_) ?_
  show own_Go _ _ _ _ (T293.setTop (mkF m 32 #[.val (.ref r0)] [(.ref r0), (.ref b4)]))
  refine own_getF A294 hx hZ hown (host := "") (Or.inl (hw _ (List.mem_of_getElem? (i := 30) rfl))) Via.refl F318 rfl rfl (hb hby d5_32) (fun T340 A341 => ?_)
  show own_Go _ _ _ _ (T340.setTop (mkF m 35 #[.val (.ref r0)] [(.ref s3), (.ref b4)]))
  have hf342 : ((((([] : List Int32) ++ xs1) ++ ([32] : List Int32)) ++ xs2) ++ ([58, 32] : List Int32)).length + xs3.length ≤ 16 := by have a1 := L337; have a2 := (show xs3.length ≤ 2 from l3); omega
  refine own_callV A341 hx hZ (y := (⟨"java/lang/StringBuilder", "append", "(Ljava/lang/String;)Ljava/lang/StringBuilder;"⟩ : MethodName)) (z := (⟨"java/lang/StringBuilder", "append", "(Ljava/lang/String;)Ljava/lang/StringBuilder;"⟩ : MethodName)) hown (hw _ (List.mem_of_getElem? (i := 55) rfl)) (hw _ (List.mem_of_getElem? (i := 56) rfl)) (hw _ (List.mem_of_getElem? (i := 58) rfl)) (hw _ (List.mem_of_getElem? (i := 57) rfl)) (hw _ (List.mem_of_getElem? (i := 39) rfl)) (hw _ (List.mem_of_getElem? (i := 59) rfl)) (notFace_of_selects (args := #[]) (mvT hZ (hw _ (List.mem_of_getElem? (i := 58) rfl)))) (by decide) (b := b4) (argsL := [(.ref s3)]) (rest := []) E324 (rm8 l Z a0 hw b4 s3 z_C t3 f3 xs3 fz338 ((((([] : List Int32) ++ xs1) ++ ([32] : List Int32)) ++ xs2) ++ ([58, 32] : List Int32)).length t38 h295 n0 (S_COMPACT_STRINGS.ext O304.2) hz E324 F299 F300 F339 V302 E319 F320 F321 V322 gt39 g_b4 (Ne.symm ne_b4_t38) (Ne.symm ne_s3_t38) (Ne.symm ne_t3_t38) (Ne.symm ne_s3_b4) (Ne.symm ne_t3_b4) Y3 Y336 hf342) 0 (by decide) (by decide) rfl (by rw [hml]; rfl) (lenOf pd__Ljava_lang_String__Ljava_lang_StringBuilder_ rfl) rfl (by show 2 * 0 + _ ≤ _; exact Nat.le_of_eq rfl) (hb hby d5_35) (by decide) (by decide) (fun v346 T343 h345 A344 hQ347 => ?_)
  obtain ⟨rfl, K348, F349, F350, F351, V352⟩ := hQ347
  have C353 : CHr Z consts_1 s.vm h0 vm249 h345 := C303.trans (CHr.keep K348 (sfS sf323 (sfS sf325 sf0)) C303.1)
  have O354 : Old Z n0 h345 := O304.keep K348 (allS g_b4 (allS gt39 all0))
  have Z355 : n0 ≤ h345.size := Nat.le_trans Z305 K348.1
  have K356 : Keep h0 h345 [] := K306.trans K348 (allS (Or.inr nw_b4) (allS (Or.inr nw_t38) all0))
  have E357 : Exa Z h345 r0 "com/example/crosstie/crosstie/Failure" := E307.keep K348
  have F358 : Fld Z h345 r0 "com/example/crosstie/crosstie/Failure" "rule" "Ljava/lang/String;" (.ref s1) := F308.keep K348 (ninS ne_r0_b4 (ninS ne_r0_t38 nin0))
  have E359 : Exa Z h345 s1 "java/lang/String" := E309.keep K348
  have F360 : Fld Z h345 s1 "java/lang/String" "coder" "B" (.int (0 : Int32)) := F310.keep K348 (ninS ne_s1_b4 (ninS ne_s1_t38 nin0))
  have F361 : Fld Z h345 s1 "java/lang/String" "value" "[B" (.ref t1) := F311.keep K348 (ninS ne_s1_b4 (ninS ne_s1_t38 nin0))
  have V362 : own_Arr Z h345 t1 .byte (Int32.ofNat xs1.length) f1 := V312.keep K348 (ninS ne_t1_b4 (ninS ne_t1_t38 nin0))
  have F363 : Fld Z h345 r0 "com/example/crosstie/crosstie/Failure" "where" "Ljava/lang/String;" (.ref s2) := F313.keep K348 (ninS ne_r0_b4 (ninS ne_r0_t38 nin0))
  have E364 : Exa Z h345 s2 "java/lang/String" := E314.keep K348
  have F365 : Fld Z h345 s2 "java/lang/String" "coder" "B" (.int (0 : Int32)) := F315.keep K348 (ninS ne_s2_b4 (ninS ne_s2_t38 nin0))
  have F366 : Fld Z h345 s2 "java/lang/String" "value" "[B" (.ref t2) := F316.keep K348 (ninS ne_s2_b4 (ninS ne_s2_t38 nin0))
  have V367 : own_Arr Z h345 t2 .byte (Int32.ofNat xs2.length) f2 := V317.keep K348 (ninS ne_t2_b4 (ninS ne_t2_t38 nin0))
  have F368 : Fld Z h345 r0 "com/example/crosstie/crosstie/Failure" "explanation" "Ljava/lang/String;" (.ref s3) := F318.keep K348 (ninS ne_r0_b4 (ninS ne_r0_t38 nin0))
  have E369 : Exa Z h345 s3 "java/lang/String" := E319.keep K348
  have F370 : Fld Z h345 s3 "java/lang/String" "coder" "B" (.int (0 : Int32)) := F320.keep K348 (ninS ne_s3_b4 (ninS ne_s3_t38 nin0))
  have F371 : Fld Z h345 s3 "java/lang/String" "value" "[B" (.ref t3) := F321.keep K348 (ninS ne_s3_b4 (ninS ne_s3_t38 nin0))
  have V372 : own_Arr Z h345 t3 .byte (Int32.ofNat xs3.length) f3 := V322.keep K348 (ninS ne_t3_b4 (ninS ne_t3_t38 nin0))
  have sf373 : Safe Z consts_1 vm249 h345 b4 := Safe.keep K348 (sfS sf323 (sfS sf325 sf0)) C303.1 sf323
  have E374 : Exa Z h345 b4 "java/lang/StringBuilder" := E324.keep K348
  have sf375 : Safe Z consts_1 vm249 h345 t38 := Safe.keep K348 (sfS sf323 (sfS sf325 sf0)) C303.1 sf325
  have E376 : Exa Z h345 b113 "java/lang/String" := E326.keep K348
  have F377 : Fld Z h345 b113 "java/lang/String" "coder" "B" (.int (0 : Int32)) := F327.keep K348 (ninS (Ne.symm ne_b4_b113) (ninS (Ne.symm ne_t38_b113) nin0))
  have F378 : Fld Z h345 b113 "java/lang/String" "value" "[B" (.ref b114) := F328.keep K348 (ninS (Ne.symm ne_b4_b113) (ninS (Ne.symm ne_t38_b113) nin0))
  have V379 : own_Arr Z h345 b114 .byte (1 : Int32) (fun j => ([32] : List Int32).getD j.toNatClampNeg 0) := V329.keep K348 (ninS (Ne.symm ne_b4_b114) (ninS (Ne.symm ne_t38_b114) nin0))
  have Y380 : k250 ≤ h345.size := Nat.le_trans Y330 K348.1
  have E381 : Exa Z h345 b247 "java/lang/String" := E331.keep K348
  have F382 : Fld Z h345 b247 "java/lang/String" "coder" "B" (.int (0 : Int32)) := F332.keep K348 (ninS (Ne.symm ne_b4_b247) (ninS (Ne.symm ne_t38_b247) nin0))
  have F383 : Fld Z h345 b247 "java/lang/String" "value" "[B" (.ref b248) := F333.keep K348 (ninS (Ne.symm ne_b4_b247) (ninS (Ne.symm ne_t38_b247) nin0))
  have V384 : own_Arr Z h345 b248 .byte (2 : Int32) (fun j => ([58, 32] : List Int32).getD j.toNatClampNeg 0) := V334.keep K348 (ninS (Ne.symm ne_b4_b248) (ninS (Ne.symm ne_t38_b248) nin0))
  have P385 : own_Pre (own_cpf f3 0 ((((([] : List Int32) ++ xs1) ++ ([32] : List Int32)) ++ xs2) ++ ([58, 32] : List Int32)).length xs3.length fz338) (((((([] : List Int32) ++ xs1) ++ ([32] : List Int32)) ++ xs2) ++ ([58, 32] : List Int32)) ++ xs3) := own_Pre.app P335 P3 (by have := hf342; omega)
  have Y386 : own_Byt (own_cpf f3 0 ((((([] : List Int32) ++ xs1) ++ ([32] : List Int32)) ++ xs2) ++ ([58, 32] : List Int32)).length xs3.length fz338) 16 := own_Byt.cp Y336 Y3 (by omega) (by decide)
  have L387 : (((((([] : List Int32) ++ xs1) ++ ([32] : List Int32)) ++ xs2) ++ ([58, 32] : List Int32)) ++ xs3).length ≤ 9 := by rw [List.length_append]; have a1 := L337; have a2 := (show xs3.length ≤ 2 from l3); omega
  have F389 : Fld Z h345 b4 "java/lang/AbstractStringBuilder" "count" "I" (.int (Int32.ofNat (((((([] : List Int32) ++ xs1) ++ ([32] : List Int32)) ++ xs2) ++ ([58, 32] : List Int32)) ++ xs3).length)) := by rw [List.length_append]; exact F351
  generalize (own_cpf f3 0 ((((([] : List Int32) ++ xs1) ++ ([32] : List Int32)) ++ xs2) ++ ([58, 32] : List Int32)).length xs3.length fz338) = fz388 at V352 P385 Y386
  show own_Go _ _ _ _ (T343.setTop (mkF m 38 #[.val (.ref r0)] [(.ref b4)]))
  refine own_callV A344 hx hZ (y := (⟨"java/lang/StringBuilder", "toString", "()Ljava/lang/String;"⟩ : MethodName)) (z := (⟨"java/lang/StringBuilder", "toString", "()Ljava/lang/String;"⟩ : MethodName)) hown (hw _ (List.mem_of_getElem? (i := 107) rfl)) (hw _ (List.mem_of_getElem? (i := 108) rfl)) (hw _ (List.mem_of_getElem? (i := 110) rfl)) (hw _ (List.mem_of_getElem? (i := 109) rfl)) (hw _ (List.mem_of_getElem? (i := 39) rfl)) (hw _ (List.mem_of_getElem? (i := 111) rfl)) (notFace_of_selects (args := #[]) (mvT hZ (hw _ (List.mem_of_getElem? (i := 110) rfl)))) (by decide) (b := b4) (argsL := []) (rest := []) E374 (rm16 l Z a0 hw b4 z_C t38 fz388 (((((([] : List Int32) ++ xs1) ++ ([32] : List Int32)) ++ xs2) ++ ([58, 32] : List Int32)) ++ xs3).length h345 n0 O354 hz S_COMPACT_STRINGS Z355 E374 F349 F350 F389 V352 Y386 (by have := L387; omega)) 0 (by decide) (by decide) rfl (by rw [hml]; rfl) (lenOf pd___Ljava_lang_String_ rfl) rfl (by show 2 * 0 + _ ≤ _; exact Nat.le_of_eq rfl) (hb hby d5_38) (by decide) (by decide) (fun v393 T390 h392 A391 hQ394 => ?_)
  obtain ⟨K395, s396, t397, rfl, gt398, nt399, E400, F401, F402, V403⟩ := hQ394
  have C404 : CHr Z consts_1 s.vm h0 vm249 h392 := C353.trans (CHr.keep K395 sf0 C353.1)
  have O405 : Old Z n0 h392 := O354.keep K395 all0
  have Z406 : n0 ≤ h392.size := Nat.le_trans Z355 K395.1
  have K407 : Keep h0 h392 [] := K356.trans K395 all0
  have E408 : Exa Z h392 r0 "com/example/crosstie/crosstie/Failure" := E357.keep K395
  have F409 : Fld Z h392 r0 "com/example/crosstie/crosstie/Failure" "rule" "Ljava/lang/String;" (.ref s1) := F358.keep K395 nin0
  have E410 : Exa Z h392 s1 "java/lang/String" := E359.keep K395
  have F411 : Fld Z h392 s1 "java/lang/String" "coder" "B" (.int (0 : Int32)) := F360.keep K395 nin0
  have F412 : Fld Z h392 s1 "java/lang/String" "value" "[B" (.ref t1) := F361.keep K395 nin0
  have V413 : own_Arr Z h392 t1 .byte (Int32.ofNat xs1.length) f1 := V362.keep K395 nin0
  have F414 : Fld Z h392 r0 "com/example/crosstie/crosstie/Failure" "where" "Ljava/lang/String;" (.ref s2) := F363.keep K395 nin0
  have E415 : Exa Z h392 s2 "java/lang/String" := E364.keep K395
  have F416 : Fld Z h392 s2 "java/lang/String" "coder" "B" (.int (0 : Int32)) := F365.keep K395 nin0
  have F417 : Fld Z h392 s2 "java/lang/String" "value" "[B" (.ref t2) := F366.keep K395 nin0
  have V418 : own_Arr Z h392 t2 .byte (Int32.ofNat xs2.length) f2 := V367.keep K395 nin0
  have F419 : Fld Z h392 r0 "com/example/crosstie/crosstie/Failure" "explanation" "Ljava/lang/String;" (.ref s3) := F368.keep K395 nin0
  have E420 : Exa Z h392 s3 "java/lang/String" := E369.keep K395
  have F421 : Fld Z h392 s3 "java/lang/String" "coder" "B" (.int (0 : Int32)) := F370.keep K395 nin0
  have F422 : Fld Z h392 s3 "java/lang/String" "value" "[B" (.ref t3) := F371.keep K395 nin0
  have V423 : own_Arr Z h392 t3 .byte (Int32.ofNat xs3.length) f3 := V372.keep K395 nin0
  have sf424 : Safe Z consts_1 vm249 h392 b4 := Safe.keep K395 sf0 C353.1 sf373
  have E425 : Exa Z h392 b4 "java/lang/StringBuilder" := E374.keep K395
  have sf426 : Safe Z consts_1 vm249 h392 t38 := Safe.keep K395 sf0 C353.1 sf375
  have E427 : Exa Z h392 b113 "java/lang/String" := E376.keep K395
  have F428 : Fld Z h392 b113 "java/lang/String" "coder" "B" (.int (0 : Int32)) := F377.keep K395 nin0
  have F429 : Fld Z h392 b113 "java/lang/String" "value" "[B" (.ref b114) := F378.keep K395 nin0
  have V430 : own_Arr Z h392 b114 .byte (1 : Int32) (fun j => ([32] : List Int32).getD j.toNatClampNeg 0) := V379.keep K395 nin0
  have Y431 : k250 ≤ h392.size := Nat.le_trans Y380 K395.1
  have E432 : Exa Z h392 b247 "java/lang/String" := E381.keep K395
  have F433 : Fld Z h392 b247 "java/lang/String" "coder" "B" (.int (0 : Int32)) := F382.keep K395 nin0
  have F434 : Fld Z h392 b247 "java/lang/String" "value" "[B" (.ref b248) := F383.keep K395 nin0
  have V435 : own_Arr Z h392 b248 .byte (2 : Int32) (fun j => ([58, 32] : List Int32).getD j.toNatClampNeg 0) := V384.keep K395 nin0
  have F436 : Fld Z h392 b4 "java/lang/AbstractStringBuilder" "value" "[B" (.ref t38) := F349.keep K395 nin0
  have F437 : Fld Z h392 b4 "java/lang/AbstractStringBuilder" "coder" "B" (.int (0 : Int32)) := F350.keep K395 nin0
  have F438 : Fld Z h392 b4 "java/lang/AbstractStringBuilder" "count" "I" (.int (Int32.ofNat (((((([] : List Int32) ++ xs1) ++ ([32] : List Int32)) ++ xs2) ++ ([58, 32] : List Int32)) ++ xs3).length)) := F389.keep K395 nin0
  have V439 : own_Arr Z h392 t38 .byte (16 : Int32) fz388 := V352.keep K395 nin0
  show own_Go _ _ _ _ (T390.setTop (mkF m 41 #[.val (.ref r0)] [(.ref s396)]))
  refine own_retAC A391 hx hret rfl hlk (by decide) (by decide) hZ hEL hs0 C404 hS253 Y431 rfl (hb hby d5_41) ?_
  exact ⟨K407, s396, t397, _, rfl, E400, F401, F402, V403, own_Pre.cut P385 (by have := L387; omega)⟩
theorem ef_32 (m : MethodId) (p0 : Int32) (p1 : Int32) (u2 : Value) (hr_u2 : u2.isRef = true) : entryFrame m #[(.int p0), (.int p1), u2] 3 = mkF m 0 #[.val (.int p0), .val (.int p1), .val u2] [] := by
  cases u2 <;> first | rfl | contradiction
theorem pn_32 : plainName "jdk/internal/util/Preconditions" = true := by first | (simp [plainName, overriddenIn]; done) | decide +kernel
theorem d32_0 : decode jdk_41_method_11_code 0 = .ok (.iload_n 0, 1) := by decide +kernel
theorem d32_1 : decode jdk_41_method_11_code 1 = .ok (.ifCond .lt 8, 3) := by decide +kernel
theorem d32_4 : decode jdk_41_method_11_code 4 = .ok (.iload_n 0, 1) := by decide +kernel
theorem d32_5 : decode jdk_41_method_11_code 5 = .ok (.iload_n 1, 1) := by decide +kernel
theorem d32_6 : decode jdk_41_method_11_code 6 = .ok (.if_icmp .lt 10, 3) := by decide +kernel
theorem d32_16 : decode jdk_41_method_11_code 16 = .ok (.iload_n 0, 1) := by decide +kernel
theorem d32_17 : decode jdk_41_method_11_code 17 = .ok (.ireturn, 1) := by decide +kernel
def f32 (p0 : Int32) (p1 : Int32) (u2 : Value) : Int32 := p0
set_option maxRecDepth 65536 in
set_option maxHeartbeats 40000000 in
theorem rm32 (l : Launch) (Z : State) (a0 : Array Value) (hw : ∀ d ∈ tables_1, d.before a0 Z = true) (p0 : Int32) (p1 : Int32) (u2 : Value) (h0 : Heap) (n0 : Nat) (hr_u2 : u2.isRef = true) (hi0 : ¬ p0 < 0) (hi1 : p0 < p1) :
    own_Met l Z n0 (⟨"jdk/internal/util/Preconditions", "checkIndex", "(IILjava/util/function/BiFunction;)I"⟩ : MethodName) jdk_41_method_11_code 3 (some .int) ({ frames := 0, cells := 0, slots := 0, locals := 0 } : Room) #[(.int p0), (.int p1), u2] h0 (fun v h => v = some (.int (f32 p0 p1 u2)) ∧ h0 = h) := by
  refine own_met (plainFor_of_name pn_32) ?_
  intro p e s m below meth c T0 hx hby hml hown hnm hret hlk hZ A0
  rw [ef_32 m p0 p1 u2 hr_u2]
  show own_Go _ _ _ _ (T0.setTop (mkF m 0 #[.val (.int p0), .val (.int p1), .val u2] []))
  refine own_go (fun t_ k_ => XS.iloadN A0.here hx rfl (hb hby d32_0) rfl k_) ?_
  show own_Go _ _ _ _ (T0.setTop (mkF m 1 #[.val (.int p0), .val (.int p1), .val u2] [(.int p0)]))
  have hc1 : ¬ (p0 < (0 : Int32)) := hi0
  refine own_go (fun t_ k_ => XS.ifNo A0.here hx rfl (hb hby d32_1) rfl ((if0 _ _).trans (flt hc1).1) k_) ?_
  show own_Go _ _ _ _ (T0.setTop (mkF m 4 #[.val (.int p0), .val (.int p1), .val u2] []))
  refine own_go (fun t_ k_ => XS.iloadN A0.here hx rfl (hb hby d32_4) rfl k_) ?_
  show own_Go _ _ _ _ (T0.setTop (mkF m 5 #[.val (.int p0), .val (.int p1), .val u2] [(.int p0)]))
  refine own_go (fun t_ k_ => XS.iloadN A0.here hx rfl (hb hby d32_5) rfl k_) ?_
  show own_Go _ _ _ _ (T0.setTop (mkF m 6 #[.val (.int p0), .val (.int p1), .val u2] [(.int p1), (.int p0)]))
  have hc2 : p0 < p1 := hi1
  refine own_go (fun t_ k_ => XS.icmpYes A0.here hx rfl (pc0 := 6) (pc' := 16) rfl (hb hby d32_6) rfl (tlt hc2).1 (by decide) (by decide) k_) ?_
  show own_Go _ _ _ _ (T0.setTop (mkF m 16 #[.val (.int p0), .val (.int p1), .val u2] []))
  refine own_go (fun t_ k_ => XS.iloadN A0.here hx rfl (hb hby d32_16) rfl k_) ?_
  show own_Go _ _ _ _ (T0.setTop (mkF m 17 #[.val (.int p0), .val (.int p1), .val u2] [(.int p0)]))
  refine own_retI A0 hx hret hlk (by decide) (by decide) (hb hby d32_17) ?_
  exact ⟨rfl, rfl⟩
theorem ef_31 (m : MethodId) (p0 : Int32) (p1 : Int32) : entryFrame m #[(.int p0), (.int p1)] 2 = mkF m 0 #[.val (.int p0), .val (.int p1)] [] := by first | (simp [entryFrame, mkF, argsToLocals, Value.category]; done) | rfl
theorem d31_0 : decode jdk_42_method_155_code 0 = .ok (.iload_n 0, 1) := by decide +kernel
theorem d31_1 : decode jdk_42_method_155_code 1 = .ok (.iload_n 1, 1) := by decide +kernel
theorem d31_2 : decode jdk_42_method_155_code 2 = .ok (.getstatic 1053, 3) := by decide +kernel
theorem d31_5 : decode jdk_42_method_155_code 5 = .ok (.invokestatic 1059, 3) := by decide +kernel
theorem pd__IILjava_util_function_BiFunction__I : parseMethodDescriptor "(IILjava/util/function/BiFunction;)I" = some ⟨[.int, .int, (.object "java/util/function/BiFunction")], some .int⟩ := by decide +kernel
theorem d31_8 : decode jdk_42_method_155_code 8 = .ok (.pop, 1) := by decide +kernel
theorem d31_9 : decode jdk_42_method_155_code 9 = .ok (.return_, 1) := by decide +kernel
set_option maxRecDepth 65536 in
set_option maxHeartbeats 40000000 in
theorem rm31 (l : Launch) (Z : State) (a0 : Array Value) (hw : ∀ d ∈ tables_1, d.before a0 Z = true) (p0 : Int32) (p1 : Int32) (s_F : Value) (h0 : Heap) (n0 : Nat) (hi0 : ¬ p0 < 0) (hi1 : p0 < p1) (S_F : Sta Z h0 "jdk/internal/util/Preconditions" "SIOOBE_FORMATTER" "Ljava/util/function/BiFunction;" s_F) (hr_F : s_F.isRef = true) :
    own_Met l Z n0 (⟨"java/lang/String", "checkIndex", "(II)V"⟩ : MethodName) jdk_42_method_155_code 2 none ({ frames := 1, cells := 0, slots := 0, locals := 14 } : Room) #[(.int p0), (.int p1)] h0 (fun v h => v = none ∧ h0 = h) := by
  refine own_met (plainFor_of_name pn_11) ?_
  intro p e s m below meth c T0 hx hby hml hown hnm hret hlk hZ A0
  rw [ef_31]
  show own_Go _ _ _ _ (T0.setTop (mkF m 0 #[.val (.int p0), .val (.int p1)] []))
  refine own_go (fun t_ k_ => XS.iloadN A0.here hx rfl (hb hby d31_0) rfl k_) ?_
  show own_Go _ _ _ _ (T0.setTop (mkF m 1 #[.val (.int p0), .val (.int p1)] [(.int p0)]))
  refine own_go (fun t_ k_ => XS.iloadN A0.here hx rfl (hb hby d31_1) rfl k_) ?_
  show own_Go _ _ _ _ (T0.setTop (mkF m 2 #[.val (.int p0), .val (.int p1)] [(.int p1), (.int p0)]))
  refine own_getS A0 hx hZ hown (host := "") (Or.inl (hw _ (List.mem_of_getElem? (i := 175) rfl))) Via.refl S_F rfl (hb hby d31_2) (fun T1 A2 => ?_)
  show own_Go _ _ _ _ (T1.setTop (mkF m 5 #[.val (.int p0), .val (.int p1)] [s_F, (.int p1), (.int p0)]))
  refine own_callS A2 hx hZ hown (y := (⟨"jdk/internal/util/Preconditions", "checkIndex", "(IILjava/util/function/BiFunction;)I"⟩ : MethodName)) (hw _ (List.mem_of_getElem? (i := 177) rfl)) (hw _ (List.mem_of_getElem? (i := 178) rfl)) (hw _ (List.mem_of_getElem? (i := 176) rfl)) (hw _ (List.mem_of_getElem? (i := 179) rfl)) (by decide) (argsL := [(.int p0), (.int p1), s_F]) (rest := []) (rm32 l Z a0 hw p0 p1 s_F h0 n0 hr_F hi0 hi1) 0 (by decide) (by decide) rfl (by rw [hml]; rfl) (lenOf pd__IILjava_util_function_BiFunction__I rfl) rfl (by show 2 * 0 + _ ≤ _; exact Nat.le_of_eq rfl) (hb hby d31_5) (by decide) (by decide) (fun v6 T3 h5 A4 hQ7 => ?_)
  obtain ⟨rfl, rfl⟩ := hQ7
  show own_Go _ _ _ _ (T3.setTop (mkF m 8 #[.val (.int p0), .val (.int p1)] [(.int (f32 p0 p1 s_F))]))
  refine own_go (fun t_ k_ => XS.pop A4.here hx rfl (hb hby d31_8) rfl rfl k_) ?_
  show own_Go _ _ _ _ (T3.setTop (mkF m 9 #[.val (.int p0), .val (.int p1)] []))
  refine own_retV A4 hx hret hlk (by decide) (by decide) (hb hby d31_9) ?_
  exact ⟨rfl, rfl⟩
theorem ef_29 (m : MethodId) (r0 : Addr) : entryFrame m #[(.ref r0)] 1 = mkF m 0 #[.val (.ref r0)] [] := by first | (simp [entryFrame, mkF, argsToLocals, Value.category]; done) | rfl
theorem d29_0 : decode jdk_42_method_154_code 0 = .ok (.getstatic 38, 3) := by decide +kernel
theorem d29_3 : decode jdk_42_method_154_code 3 = .ok (.ifCond .eq 14, 3) := by decide +kernel
theorem d29_6 : decode jdk_42_method_154_code 6 = .ok (.aload_n 0, 1) := by decide +kernel
theorem d29_7 : decode jdk_42_method_154_code 7 = .ok (.getfield 15, 3) := by decide +kernel
theorem d29_10 : decode jdk_42_method_154_code 10 = .ok (.ifCond .ne 7, 3) := by decide +kernel
theorem d29_13 : decode jdk_42_method_154_code 13 = .ok (.iconst 1, 1) := by decide +kernel
theorem d29_14 : decode jdk_42_method_154_code 14 = .ok (.goto 4, 3) := by decide +kernel
theorem d29_18 : decode jdk_42_method_154_code 18 = .ok (.ireturn, 1) := by decide +kernel
def f29 (z_C : Int32) : Int32 := (1 : Int32)
set_option maxRecDepth 65536 in
set_option maxHeartbeats 40000000 in
theorem rm29 (l : Launch) (Z : State) (a0 : Array Value) (hw : ∀ d ∈ tables_1, d.before a0 Z = true) (r0 : Addr) (z_C : Int32) (h0 : Heap) (n0 : Nat) (Fc : Fld Z h0 r0 "java/lang/String" "coder" "B" (.int (0 : Int32))) (S_C : Sta Z h0 "java/lang/String" "COMPACT_STRINGS" "Z" (.int z_C)) (hz : ¬ z_C = 0) :
    own_Met l Z n0 (⟨"java/lang/String", "isLatin1", "()Z"⟩ : MethodName) jdk_42_method_154_code 1 (some .boolean) ({ frames := 0, cells := 0, slots := 0, locals := 0 } : Room) #[(.ref r0)] h0 (fun v h => v = some (.int (f29 z_C)) ∧ h0 = h) := by
  refine own_met (plainFor_of_name pn_11) ?_
  intro p e s m below meth c T0 hx hby hml hown hnm hret hlk hZ A0
  rw [ef_29]
  show own_Go _ _ _ _ (T0.setTop (mkF m 0 #[.val (.ref r0)] []))
  refine own_getS A0 hx hZ hown (host := "") (Or.inl (hw _ (List.mem_of_getElem? (i := 76) rfl))) Via.refl S_C rfl (hb hby d29_0) (fun T1 A2 => ?_)
  show own_Go _ _ _ _ (T1.setTop (mkF m 3 #[.val (.ref r0)] [(.int z_C)]))
  have hc3 : ¬ (z_C = (0 : Int32)) := hz
  refine own_go (fun t_ k_ => XS.ifNo A2.here hx rfl (hb hby d29_3) rfl ((if0 _ _).trans (feq hc3).1) k_) ?_
  show own_Go _ _ _ _ (T1.setTop (mkF m 6 #[.val (.ref r0)] []))
  refine own_go (fun t_ k_ => XS.aloadN A2.here hx rfl (hb hby d29_6) rfl rfl k_) ?_
  show own_Go _ _ _ _ (T1.setTop (mkF m 7 #[.val (.ref r0)] [(.ref r0)]))
  refine own_getF A2 hx hZ hown (host := "") (Or.inl (hw _ (List.mem_of_getElem? (i := 77) rfl))) Via.refl Fc rfl rfl (hb hby d29_7) (fun T4 A5 => ?_)
  show own_Go _ _ _ _ (T4.setTop (mkF m 10 #[.val (.ref r0)] [(.int (0 : Int32))]))
  have hc6 : (0 : Int32) = (0 : Int32) := (by decide)
  refine own_go (fun t_ k_ => XS.ifNo A5.here hx rfl (hb hby d29_10) rfl ((if0 _ _).trans (teq hc6).2) k_) ?_
  show own_Go _ _ _ _ (T4.setTop (mkF m 13 #[.val (.ref r0)] []))
  refine own_go (fun t_ k_ => XS.iconst A5.here hx rfl (hb hby d29_13) k_) ?_
  show own_Go _ _ _ _ (T4.setTop (mkF m 14 #[.val (.ref r0)] [(.int (1 : Int32))]))
  refine own_go (fun t_ k_ => XS.goto A5.here hx rfl (pc0 := 14) (pc' := 18) rfl (hb hby d29_14) (by decide) (by decide) k_) ?_
  show own_Go _ _ _ _ (T4.setTop (mkF m 18 #[.val (.ref r0)] [(.int (1 : Int32))]))
  refine own_retN A5 hx (t := .boolean) hret (by simp) hlk (by decide) (by decide) (hb hby d29_18) ?_
  exact ⟨rfl, rfl⟩
theorem ef_30 (m : MethodId) (r0 : Addr) (p1 : Int32) : entryFrame m #[(.ref r0), (.int p1)] 2 = mkF m 0 #[.val (.ref r0), .val (.int p1)] [] := by first | (simp [entryFrame, mkF, argsToLocals, Value.category]; done) | rfl
theorem d30_0 : decode jdk_43_method_2_code 0 = .ok (.iload_n 1, 1) := by decide +kernel
theorem d30_1 : decode jdk_43_method_2_code 1 = .ok (.aload_n 0, 1) := by decide +kernel
theorem d30_2 : decode jdk_43_method_2_code 2 = .ok (.arraylength, 1) := by decide +kernel
theorem d30_3 : decode jdk_43_method_2_code 3 = .ok (.invokestatic 9, 3) := by decide +kernel
theorem d30_6 : decode jdk_43_method_2_code 6 = .ok (.aload_n 0, 1) := by decide +kernel
theorem d30_7 : decode jdk_43_method_2_code 7 = .ok (.iload_n 1, 1) := by decide +kernel
theorem d30_8 : decode jdk_43_method_2_code 8 = .ok (.baload, 1) := by decide +kernel
theorem d30_9 : decode jdk_43_method_2_code 9 = .ok (.sipush 255, 3) := by decide +kernel
theorem d30_12 : decode jdk_43_method_2_code 12 = .ok (.iand, 1) := by decide +kernel
theorem d30_13 : decode jdk_43_method_2_code 13 = .ok (.i2c, 1) := by decide +kernel
theorem d30_14 : decode jdk_43_method_2_code 14 = .ok (.ireturn, 1) := by decide +kernel
def f30 (p1 : Int32) (g : Int32 → Int32) (s_F : Value) (nn : Nat) : Int32 := (nar .char (((g p1) &&& (255 : Int32)).toUInt32.toUInt16.toUInt32.toInt32))
set_option maxRecDepth 65536 in
set_option maxHeartbeats 40000000 in
theorem rm30 (l : Launch) (Z : State) (a0 : Array Value) (hw : ∀ d ∈ tables_1, d.before a0 Z = true) (r0 : Addr) (p1 : Int32) (g : Int32 → Int32) (s_F : Value) (nn : Nat) (h0 : Heap) (n0 : Nat) (V0 : own_Arr Z h0 r0 .byte (Int32.ofNat nn) g) (hi0 : ¬ p1 < 0) (hi1 : p1 < (Int32.ofNat nn)) (S_F : Sta Z h0 "jdk/internal/util/Preconditions" "SIOOBE_FORMATTER" "Ljava/util/function/BiFunction;" s_F) (hr_F : s_F.isRef = true) :
    own_Met l Z n0 (⟨"java/lang/StringLatin1", "charAt", "([BI)C"⟩ : MethodName) jdk_43_method_2_code 2 (some .char) ({ frames := 2, cells := 0, slots := 0, locals := 27 } : Room) #[(.ref r0), (.int p1)] h0 (fun v h => v = some (.int (f30 p1 g s_F nn)) ∧ h0 = h) := by
  refine own_met (plainFor_of_name pn_34) ?_
  intro p e s m below meth c T0 hx hby hml hown hnm hret hlk hZ A0
  rw [ef_30]
  show own_Go _ _ _ _ (T0.setTop (mkF m 0 #[.val (.ref r0), .val (.int p1)] []))
  refine own_go (fun t_ k_ => XS.iloadN A0.here hx rfl (hb hby d30_0) rfl k_) ?_
  show own_Go _ _ _ _ (T0.setTop (mkF m 1 #[.val (.ref r0), .val (.int p1)] [(.int p1)]))
  refine own_go (fun t_ k_ => XS.aloadN A0.here hx rfl (hb hby d30_1) rfl rfl k_) ?_
  show own_Go _ _ _ _ (T0.setTop (mkF m 2 #[.val (.ref r0), .val (.int p1)] [(.ref r0), (.int p1)]))
  refine own_len A0 hx hZ V0 rfl rfl (hb hby d30_2) ?_
  show own_Go _ _ _ _ (T0.setTop (mkF m 3 #[.val (.ref r0), .val (.int p1)] [(.int (Int32.ofNat nn)), (.int p1)]))
  refine own_callS A0 hx hZ hown (y := (⟨"java/lang/String", "checkIndex", "(II)V"⟩ : MethodName)) (hw _ (List.mem_of_getElem? (i := 172) rfl)) (hw _ (List.mem_of_getElem? (i := 173) rfl)) (hw _ (List.mem_of_getElem? (i := 8) rfl)) (hw _ (List.mem_of_getElem? (i := 174) rfl)) (by decide) (argsL := [(.int p1), (.int (Int32.ofNat nn))]) (rest := []) (rm31 l Z a0 hw p1 (Int32.ofNat nn) s_F h0 n0 hi0 hi1 S_F hr_F) 0 (by decide) (by decide) rfl (by rw [hml]; rfl) (lenOf pd__II_V rfl) rfl (by show 2 * 0 + _ ≤ _; exact Nat.le_of_eq rfl) (hb hby d30_3) (by decide) (by decide) (fun v4 T1 h3 A2 hQ5 => ?_)
  obtain ⟨rfl, rfl⟩ := hQ5
  show own_Go _ _ _ _ (T1.setTop (mkF m 6 #[.val (.ref r0), .val (.int p1)] []))
  refine own_go (fun t_ k_ => XS.aloadN A2.here hx rfl (hb hby d30_6) rfl rfl k_) ?_
  show own_Go _ _ _ _ (T1.setTop (mkF m 7 #[.val (.ref r0), .val (.int p1)] [(.ref r0)]))
  refine own_go (fun t_ k_ => XS.iloadN A2.here hx rfl (hb hby d30_7) rfl k_) ?_
  show own_Go _ _ _ _ (T1.setTop (mkF m 8 #[.val (.ref r0), .val (.int p1)] [(.int p1), (.ref r0)]))
  refine own_ldB A2 hx hZ V0 ⟨hi0, hi1⟩ rfl rfl (hb hby d30_8) ?_
  show own_Go _ _ _ _ (T1.setTop (mkF m 9 #[.val (.ref r0), .val (.int p1)] [(.int (g p1))]))
  refine own_go (fun t_ k_ => XS.sipush A2.here hx rfl (hb hby d30_9) k_) ?_
  show own_Go _ _ _ _ (T1.setTop (mkF m 12 #[.val (.ref r0), .val (.int p1)] [(.int (255 : Int32)), (.int (g p1))]))
  refine own_go (fun t_ k_ => XS.iand A2.here hx rfl (hb hby d30_12) rfl k_) ?_
  show own_Go _ _ _ _ (T1.setTop (mkF m 13 #[.val (.ref r0), .val (.int p1)] [(.int ((g p1) &&& (255 : Int32)))]))
  refine own_go (fun t_ k_ => XS.i2c A2.here hx rfl (hb hby d30_13) rfl k_) ?_
  show own_Go _ _ _ _ (T1.setTop (mkF m 14 #[.val (.ref r0), .val (.int p1)] [(.int (((g p1) &&& (255 : Int32)).toUInt32.toUInt16.toUInt32.toInt32))]))
  refine own_retN A2 hx (t := .char) hret (by simp) hlk (by decide) (by decide) (hb hby d30_14) ?_
  exact ⟨rfl, rfl⟩
theorem ef_28 (m : MethodId) (r0 : Addr) (p1 : Int32) : entryFrame m #[(.ref r0), (.int p1)] 2 = mkF m 0 #[.val (.ref r0), .val (.int p1)] [] := by first | (simp [entryFrame, mkF, argsToLocals, Value.category]; done) | rfl
theorem d28_0 : decode jdk_42_method_56_code 0 = .ok (.aload_n 0, 1) := by decide +kernel
theorem d28_1 : decode jdk_42_method_56_code 1 = .ok (.invokevirtual 492, 3) := by decide +kernel
theorem d28_4 : decode jdk_42_method_56_code 4 = .ok (.ifCond .eq 12, 3) := by decide +kernel
theorem d28_7 : decode jdk_42_method_56_code 7 = .ok (.aload_n 0, 1) := by decide +kernel
theorem d28_8 : decode jdk_42_method_56_code 8 = .ok (.getfield 9, 3) := by decide +kernel
theorem d28_11 : decode jdk_42_method_56_code 11 = .ok (.iload_n 1, 1) := by decide +kernel
theorem d28_12 : decode jdk_42_method_56_code 12 = .ok (.invokestatic 495, 3) := by decide +kernel
theorem pd___BI_C : parseMethodDescriptor "([BI)C" = some ⟨[(.array .byte), .int], some .char⟩ := by decide +kernel
theorem d28_15 : decode jdk_42_method_56_code 15 = .ok (.ireturn, 1) := by decide +kernel
def f28 (p1 : Int32) (g : Int32 → Int32) (z_C : Int32) (s_F : Value) (nn : Nat) : Int32 := (nar .char (f30 p1 g s_F nn))
set_option maxRecDepth 65536 in
set_option maxHeartbeats 40000000 in
theorem rm28 (l : Launch) (Z : State) (a0 : Array Value) (hw : ∀ d ∈ tables_1, d.before a0 Z = true) (r0 : Addr) (p1 : Int32) (t0 : Addr) (g : Int32 → Int32) (z_C : Int32) (s_F : Value) (nn : Nat) (h0 : Heap) (n0 : Nat) (E0 : Exa Z h0 r0 "java/lang/String") (Fc : Fld Z h0 r0 "java/lang/String" "coder" "B" (.int (0 : Int32))) (Fv : Fld Z h0 r0 "java/lang/String" "value" "[B" (.ref t0)) (V0 : own_Arr Z h0 t0 .byte (Int32.ofNat nn) g) (hi0 : ¬ p1 < 0) (hi1 : p1 < (Int32.ofNat nn)) (S_C : Sta Z h0 "java/lang/String" "COMPACT_STRINGS" "Z" (.int z_C)) (hz : ¬ z_C = 0) (S_F : Sta Z h0 "jdk/internal/util/Preconditions" "SIOOBE_FORMATTER" "Ljava/util/function/BiFunction;" s_F) (hr_F : s_F.isRef = true) :
    own_Met l Z n0 (⟨"java/lang/String", "charAt", "(I)C"⟩ : MethodName) jdk_42_method_56_code 2 (some .char) ({ frames := 3, cells := 0, slots := 0, locals := 40 } : Room) #[(.ref r0), (.int p1)] h0 (fun v h => v = some (.int (f28 p1 g z_C s_F nn)) ∧ h0 = h) := by
  refine own_met (plainFor_of_name pn_11) ?_
  intro p e s m below meth c T0 hx hby hml hown hnm hret hlk hZ A0
  rw [ef_28]
  show own_Go _ _ _ _ (T0.setTop (mkF m 0 #[.val (.ref r0), .val (.int p1)] []))
  refine own_go (fun t_ k_ => XS.aloadN A0.here hx rfl (hb hby d28_0) rfl rfl k_) ?_
  show own_Go _ _ _ _ (T0.setTop (mkF m 1 #[.val (.ref r0), .val (.int p1)] [(.ref r0)]))
  refine own_callV A0 hx hZ (y := (⟨"java/lang/String", "isLatin1", "()Z"⟩ : MethodName)) (z := (⟨"java/lang/String", "isLatin1", "()Z"⟩ : MethodName)) hown (hw _ (List.mem_of_getElem? (i := 163) rfl)) (hw _ (List.mem_of_getElem? (i := 164) rfl)) (hw _ (List.mem_of_getElem? (i := 166) rfl)) (hw _ (List.mem_of_getElem? (i := 165) rfl)) (hw _ (List.mem_of_getElem? (i := 8) rfl)) (hw _ (List.mem_of_getElem? (i := 167) rfl)) (notFace_of_selects (args := #[]) (mvT hZ (hw _ (List.mem_of_getElem? (i := 166) rfl)))) (by decide) (b := r0) (argsL := []) (rest := []) E0 (rm29 l Z a0 hw r0 z_C h0 n0 Fc S_C hz) 0 (by decide) (by decide) rfl (by rw [hml]; rfl) (lenOf pd___Z rfl) rfl (by show 2 * 0 + _ ≤ _; exact Nat.le_of_eq rfl) (hb hby d28_1) (by decide) (by decide) (fun v4 T1 h3 A2 hQ5 => ?_)
  obtain ⟨rfl, rfl⟩ := hQ5
  show own_Go _ _ _ _ (T1.setTop (mkF m 4 #[.val (.ref r0), .val (.int p1)] [(.int (f29 z_C))]))
  have hc6 : ¬ ((f29 z_C) = (0 : Int32)) := (show ¬ (1 : Int32) = 0 by decide)
  refine own_go (fun t_ k_ => XS.ifNo A2.here hx rfl (hb hby d28_4) rfl ((if0 _ _).trans (feq hc6).1) k_) ?_
  show own_Go _ _ _ _ (T1.setTop (mkF m 7 #[.val (.ref r0), .val (.int p1)] []))
  refine own_go (fun t_ k_ => XS.aloadN A2.here hx rfl (hb hby d28_7) rfl rfl k_) ?_
  show own_Go _ _ _ _ (T1.setTop (mkF m 8 #[.val (.ref r0), .val (.int p1)] [(.ref r0)]))
  refine own_getF A2 hx hZ hown (host := "") (Or.inl (hw _ (List.mem_of_getElem? (i := 70) rfl))) Via.refl Fv rfl rfl (hb hby d28_8) (fun T7 A8 => ?_)
  show own_Go _ _ _ _ (T7.setTop (mkF m 11 #[.val (.ref r0), .val (.int p1)] [(.ref t0)]))
  refine own_go (fun t_ k_ => XS.iloadN A8.here hx rfl (hb hby d28_11) rfl k_) ?_
  show own_Go _ _ _ _ (T7.setTop (mkF m 12 #[.val (.ref r0), .val (.int p1)] [(.int p1), (.ref t0)]))
  refine own_callS A8 hx hZ hown (y := (⟨"java/lang/StringLatin1", "charAt", "([BI)C"⟩ : MethodName)) (hw _ (List.mem_of_getElem? (i := 168) rfl)) (hw _ (List.mem_of_getElem? (i := 169) rfl)) (hw _ (List.mem_of_getElem? (i := 170) rfl)) (hw _ (List.mem_of_getElem? (i := 171) rfl)) (by decide) (argsL := [(.ref t0), (.int p1)]) (rest := []) (rm30 l Z a0 hw t0 p1 g s_F nn h0 n0 V0 hi0 hi1 S_F hr_F) 0 (by decide) (by decide) rfl (by rw [hml]; rfl) (lenOf pd___BI_C rfl) rfl (by show 2 * 0 + _ ≤ _; exact Nat.le_of_eq rfl) (hb hby d28_12) (by decide) (by decide) (fun v12 T9 h11 A10 hQ13 => ?_)
  obtain ⟨rfl, rfl⟩ := hQ13
  show own_Go _ _ _ _ (T9.setTop (mkF m 15 #[.val (.ref r0), .val (.int p1)] [(.int (f30 p1 g s_F nn))]))
  refine own_retN A10 hx (t := .char) hret (by simp) hlk (by decide) (by decide) (hb hby d28_15) ?_
  exact ⟨rfl, rfl⟩
theorem ef_27 (m : MethodId) (r0 : Addr) (p1 : Int32) (p2 : Int32) (p3 : Int32) (p4 : Int32) : entryFrame m #[(.ref r0), (.int p1), (.int p2), (.int p3), (.int p4)] 5 = mkF m 0 #[.val (.ref r0), .val (.int p1), .val (.int p2), .val (.int p3), .val (.int p4)] [] := by first | (simp [entryFrame, mkF, argsToLocals, Value.category]; done) | rfl
theorem d27_0 : decode method_3_code 0 = .ok (.iload_n 2, 1) := by decide +kernel
theorem d27_1 : decode method_3_code 1 = .ok (.ifCond .le 14, 3) := by decide +kernel
theorem d27_4 : decode method_3_code 4 = .ok (.aload_n 0, 1) := by decide +kernel
theorem d27_5 : decode method_3_code 5 = .ok (.iload_n 1, 1) := by decide +kernel
theorem d27_6 : decode method_3_code 6 = .ok (.invokevirtual 18, 3) := by decide +kernel
theorem pd__I_C : parseMethodDescriptor "(I)C" = some ⟨[.int], some .char⟩ := by decide +kernel
theorem d27_9 : decode method_3_code 9 = .ok (.iload_n 3, 1) := by decide +kernel
theorem d27_10 : decode method_3_code 10 = .ok (.if_icmp .eq 5, 3) := by decide +kernel
theorem d27_15 : decode method_3_code 15 = .ok (.iload_n 2, 1) := by decide +kernel
theorem d27_16 : decode method_3_code 16 = .ok (.iconst 1, 1) := by decide +kernel
theorem d27_17 : decode method_3_code 17 = .ok (.if_icmp .le 17, 3) := by decide +kernel
theorem d27_20 : decode method_3_code 20 = .ok (.aload_n 0, 1) := by decide +kernel
theorem d27_21 : decode method_3_code 21 = .ok (.iload_n 1, 1) := by decide +kernel
theorem d27_22 : decode method_3_code 22 = .ok (.iconst 1, 1) := by decide +kernel
theorem d27_23 : decode method_3_code 23 = .ok (.iadd, 1) := by decide +kernel
theorem d27_24 : decode method_3_code 24 = .ok (.invokevirtual 18, 3) := by decide +kernel
theorem d27_27 : decode method_3_code 27 = .ok (.iload 4, 2) := by decide +kernel
theorem d27_29 : decode method_3_code 29 = .ok (.if_icmp .eq 5, 3) := by decide +kernel
theorem d27_34 : decode method_3_code 34 = .ok (.iconst 1, 1) := by decide +kernel
theorem d27_35 : decode method_3_code 35 = .ok (.ireturn, 1) := by decide +kernel
set_option maxRecDepth 65536 in
set_option maxHeartbeats 40000000 in
theorem rm27 (l : Launch) (Z : State) (a0 : Array Value) (hw : ∀ d ∈ tables_1, d.before a0 Z = true) (r0 : Addr) (p1 : Int32) (p2 : Int32) (p3 : Int32) (p4 : Int32) (t0 : Addr) (g : Int32 → Int32) (nn : Nat) (z_C : Int32) (s_F : Value) (h0 : Heap) (n0 : Nat) (E0 : Exa Z h0 r0 "java/lang/String") (Fc : Fld Z h0 r0 "java/lang/String" "coder" "B" (.int (0 : Int32))) (Fv : Fld Z h0 r0 "java/lang/String" "value" "[B" (.ref t0)) (V0 : own_Arr Z h0 t0 .byte (Int32.ofNat nn) g) (S_C : Sta Z h0 "java/lang/String" "COMPACT_STRINGS" "Z" (.int z_C)) (hz : ¬ z_C = 0) (S_F : Sta Z h0 "jdk/internal/util/Preconditions" "SIOOBE_FORMATTER" "Ljava/util/function/BiFunction;" s_F) (hr_F : s_F.isRef = true) (hA : (0 : Int32) < p2 → (¬ p1 < 0 ∧ p1 < (Int32.ofNat nn)) ∧ (f28 p1 g z_C s_F nn) = p3) (hB : (1 : Int32) < p2 → (¬ (p1 + (1 : Int32)) < 0 ∧ (p1 + (1 : Int32)) < (Int32.ofNat nn)) ∧ (f28 (p1 + (1 : Int32)) g z_C s_F nn) = p4) :
    own_Met l Z n0 (⟨"com/example/crosstie/crosstie/FailureLinePinLaw", "has", "(Ljava/lang/String;IICC)Z"⟩ : MethodName) method_3_code 5 (some .boolean) ({ frames := 4, cells := 0, slots := 0, locals := 53 } : Room) #[(.ref r0), (.int p1), (.int p2), (.int p3), (.int p4)] h0 (fun v h => v = some (.int 1) ∧ h0 = h) := by
  refine own_met (plainFor_of_name pn_1) ?_
  intro p e s m below meth c T0 hx hby hml hown hnm hret hlk hZ A0
  rw [ef_27]
  show own_Go _ _ _ _ (T0.setTop (mkF m 0 #[.val (.ref r0), .val (.int p1), .val (.int p2), .val (.int p3), .val (.int p4)] []))
  refine own_go (fun t_ k_ => XS.iloadN A0.here hx rfl (hb hby d27_0) rfl k_) ?_
  show own_Go _ _ _ _ (T0.setTop (mkF m 1 #[.val (.ref r0), .val (.int p1), .val (.int p2), .val (.int p3), .val (.int p4)] [(.int p2)]))
  by_cases hc1 : (0 : Int32) < p2
  ·
    refine own_go (fun t_ k_ => XS.ifNo A0.here hx rfl (hb hby d27_1) rfl ((if0 _ _).trans (tlt hc1).2.2.2) k_) ?_
    show own_Go _ _ _ _ (T0.setTop (mkF m 4 #[.val (.ref r0), .val (.int p1), .val (.int p2), .val (.int p3), .val (.int p4)] []))
    refine own_go (fun t_ k_ => XS.aloadN A0.here hx rfl (hb hby d27_4) rfl rfl k_) ?_
    show own_Go _ _ _ _ (T0.setTop (mkF m 5 #[.val (.ref r0), .val (.int p1), .val (.int p2), .val (.int p3), .val (.int p4)] [(.ref r0)]))
    refine own_go (fun t_ k_ => XS.iloadN A0.here hx rfl (hb hby d27_5) rfl k_) ?_
    show own_Go _ _ _ _ (T0.setTop (mkF m 6 #[.val (.ref r0), .val (.int p1), .val (.int p2), .val (.int p3), .val (.int p4)] [(.int p1), (.ref r0)]))
    refine own_callV A0 hx hZ (y := (⟨"java/lang/String", "charAt", "(I)C"⟩ : MethodName)) (z := (⟨"java/lang/String", "charAt", "(I)C"⟩ : MethodName)) hown (hw _ (List.mem_of_getElem? (i := 158) rfl)) (hw _ (List.mem_of_getElem? (i := 159) rfl)) (hw _ (List.mem_of_getElem? (i := 161) rfl)) (hw _ (List.mem_of_getElem? (i := 160) rfl)) (hw _ (List.mem_of_getElem? (i := 8) rfl)) (hw _ (List.mem_of_getElem? (i := 162) rfl)) (notFace_of_selects (args := #[]) (mvT hZ (hw _ (List.mem_of_getElem? (i := 161) rfl)))) (by decide) (b := r0) (argsL := [(.int p1)]) (rest := []) E0 (rm28 l Z a0 hw r0 p1 t0 g z_C s_F nn h0 n0 E0 Fc Fv V0 (hA hc1).1.1 (hA hc1).1.2 S_C hz S_F hr_F) 0 (by decide) (by decide) rfl (by rw [hml]; rfl) (lenOf pd__I_C rfl) rfl (by show 2 * 0 + _ ≤ _; exact Nat.le_of_eq rfl) (hb hby d27_6) (by decide) (by decide) (fun v5 T2 h4 A3 hQ6 => ?_)
    obtain ⟨rfl, rfl⟩ := hQ6
    show own_Go _ _ _ _ (T2.setTop (mkF m 9 #[.val (.ref r0), .val (.int p1), .val (.int p2), .val (.int p3), .val (.int p4)] [(.int (f28 p1 g z_C s_F nn))]))
    refine own_go (fun t_ k_ => XS.iloadN A3.here hx rfl (hb hby d27_9) rfl k_) ?_
    show own_Go _ _ _ _ (T2.setTop (mkF m 10 #[.val (.ref r0), .val (.int p1), .val (.int p2), .val (.int p3), .val (.int p4)] [(.int p3), (.int (f28 p1 g z_C s_F nn))]))
    have hc7 : (f28 p1 g z_C s_F nn) = p3 := (hA hc1).2
    refine own_go (fun t_ k_ => XS.icmpYes A3.here hx rfl (pc0 := 10) (pc' := 15) rfl (hb hby d27_10) rfl (teq hc7).1 (by decide) (by decide) k_) ?_
    show own_Go _ _ _ _ (T2.setTop (mkF m 15 #[.val (.ref r0), .val (.int p1), .val (.int p2), .val (.int p3), .val (.int p4)] []))
    refine own_go (fun t_ k_ => XS.iloadN A3.here hx rfl (hb hby d27_15) rfl k_) ?_
    show own_Go _ _ _ _ (T2.setTop (mkF m 16 #[.val (.ref r0), .val (.int p1), .val (.int p2), .val (.int p3), .val (.int p4)] [(.int p2)]))
    refine own_go (fun t_ k_ => XS.iconst A3.here hx rfl (hb hby d27_16) k_) ?_
    show own_Go _ _ _ _ (T2.setTop (mkF m 17 #[.val (.ref r0), .val (.int p1), .val (.int p2), .val (.int p3), .val (.int p4)] [(.int (1 : Int32)), (.int p2)]))
    by_cases hc8 : (1 : Int32) < p2
    ·
      refine own_go (fun t_ k_ => XS.icmpNo A3.here hx rfl (hb hby d27_17) rfl (tlt hc8).2.2.2 k_) ?_
      show own_Go _ _ _ _ (T2.setTop (mkF m 20 #[.val (.ref r0), .val (.int p1), .val (.int p2), .val (.int p3), .val (.int p4)] []))
      refine own_go (fun t_ k_ => XS.aloadN A3.here hx rfl (hb hby d27_20) rfl rfl k_) ?_
      show own_Go _ _ _ _ (T2.setTop (mkF m 21 #[.val (.ref r0), .val (.int p1), .val (.int p2), .val (.int p3), .val (.int p4)] [(.ref r0)]))
      refine own_go (fun t_ k_ => XS.iloadN A3.here hx rfl (hb hby d27_21) rfl k_) ?_
      show own_Go _ _ _ _ (T2.setTop (mkF m 22 #[.val (.ref r0), .val (.int p1), .val (.int p2), .val (.int p3), .val (.int p4)] [(.int p1), (.ref r0)]))
      refine own_go (fun t_ k_ => XS.iconst A3.here hx rfl (hb hby d27_22) k_) ?_
      show own_Go _ _ _ _ (T2.setTop (mkF m 23 #[.val (.ref r0), .val (.int p1), .val (.int p2), .val (.int p3), .val (.int p4)] [(.int (1 : Int32)), (.int p1), (.ref r0)]))
      refine own_go (fun t_ k_ => XS.iadd A3.here hx rfl (hb hby d27_23) rfl k_) ?_
      show own_Go _ _ _ _ (T2.setTop (mkF m 24 #[.val (.ref r0), .val (.int p1), .val (.int p2), .val (.int p3), .val (.int p4)] [(.int (p1 + (1 : Int32))), (.ref r0)]))
      refine own_callV A3 hx hZ (y := (⟨"java/lang/String", "charAt", "(I)C"⟩ : MethodName)) (z := (⟨"java/lang/String", "charAt", "(I)C"⟩ : MethodName)) hown (hw _ (List.mem_of_getElem? (i := 158) rfl)) (hw _ (List.mem_of_getElem? (i := 159) rfl)) (hw _ (List.mem_of_getElem? (i := 161) rfl)) (hw _ (List.mem_of_getElem? (i := 160) rfl)) (hw _ (List.mem_of_getElem? (i := 8) rfl)) (hw _ (List.mem_of_getElem? (i := 162) rfl)) (notFace_of_selects (args := #[]) (mvT hZ (hw _ (List.mem_of_getElem? (i := 161) rfl)))) (by decide) (b := r0) (argsL := [(.int (p1 + (1 : Int32)))]) (rest := []) E0 (rm28 l Z a0 hw r0 (p1 + (1 : Int32)) t0 g z_C s_F nn h0 n0 E0 Fc Fv V0 (hB hc8).1.1 (hB hc8).1.2 S_C hz S_F hr_F) 0 (by decide) (by decide) rfl (by rw [hml]; rfl) (lenOf pd__I_C rfl) rfl (by show 2 * 0 + _ ≤ _; exact Nat.le_of_eq rfl) (hb hby d27_24) (by decide) (by decide) (fun v12 T9 h11 A10 hQ13 => ?_)
      obtain ⟨rfl, rfl⟩ := hQ13
      show own_Go _ _ _ _ (T9.setTop (mkF m 27 #[.val (.ref r0), .val (.int p1), .val (.int p2), .val (.int p3), .val (.int p4)] [(.int (f28 (p1 + (1 : Int32)) g z_C s_F nn))]))
      refine own_go (fun t_ k_ => XS.iload A10.here hx rfl (hb hby d27_27) rfl k_) ?_
      show own_Go _ _ _ _ (T9.setTop (mkF m 29 #[.val (.ref r0), .val (.int p1), .val (.int p2), .val (.int p3), .val (.int p4)] [(.int p4), (.int (f28 (p1 + (1 : Int32)) g z_C s_F nn))]))
      have hc14 : (f28 (p1 + (1 : Int32)) g z_C s_F nn) = p4 := (hB hc8).2
      refine own_go (fun t_ k_ => XS.icmpYes A10.here hx rfl (pc0 := 29) (pc' := 34) rfl (hb hby d27_29) rfl (teq hc14).1 (by decide) (by decide) k_) ?_
      show own_Go _ _ _ _ (T9.setTop (mkF m 34 #[.val (.ref r0), .val (.int p1), .val (.int p2), .val (.int p3), .val (.int p4)] []))
      refine own_go (fun t_ k_ => XS.iconst A10.here hx rfl (hb hby d27_34) k_) ?_
      show own_Go _ _ _ _ (T9.setTop (mkF m 35 #[.val (.ref r0), .val (.int p1), .val (.int p2), .val (.int p3), .val (.int p4)] [(.int (1 : Int32))]))
      refine own_retN A10 hx (t := .boolean) hret (by simp) hlk (by decide) (by decide) (hb hby d27_35) ?_
      exact ⟨rfl, rfl⟩
    ·
      refine own_go (fun t_ k_ => XS.icmpYes A3.here hx rfl (pc0 := 17) (pc' := 34) rfl (hb hby d27_17) rfl (flt hc8).2.2.2 (by decide) (by decide) k_) ?_
      show own_Go _ _ _ _ (T2.setTop (mkF m 34 #[.val (.ref r0), .val (.int p1), .val (.int p2), .val (.int p3), .val (.int p4)] []))
      refine own_go (fun t_ k_ => XS.iconst A3.here hx rfl (hb hby d27_34) k_) ?_
      show own_Go _ _ _ _ (T2.setTop (mkF m 35 #[.val (.ref r0), .val (.int p1), .val (.int p2), .val (.int p3), .val (.int p4)] [(.int (1 : Int32))]))
      refine own_retN A3 hx (t := .boolean) hret (by simp) hlk (by decide) (by decide) (hb hby d27_35) ?_
      exact ⟨rfl, rfl⟩
  ·
    refine own_go (fun t_ k_ => XS.ifYes A0.here hx rfl (pc0 := 1) (pc' := 15) rfl (hb hby d27_1) rfl ((if0 _ _).trans (flt hc1).2.2.2) (by decide) (by decide) k_) ?_
    show own_Go _ _ _ _ (T0.setTop (mkF m 15 #[.val (.ref r0), .val (.int p1), .val (.int p2), .val (.int p3), .val (.int p4)] []))
    refine own_go (fun t_ k_ => XS.iloadN A0.here hx rfl (hb hby d27_15) rfl k_) ?_
    show own_Go _ _ _ _ (T0.setTop (mkF m 16 #[.val (.ref r0), .val (.int p1), .val (.int p2), .val (.int p3), .val (.int p4)] [(.int p2)]))
    refine own_go (fun t_ k_ => XS.iconst A0.here hx rfl (hb hby d27_16) k_) ?_
    show own_Go _ _ _ _ (T0.setTop (mkF m 17 #[.val (.ref r0), .val (.int p1), .val (.int p2), .val (.int p3), .val (.int p4)] [(.int (1 : Int32)), (.int p2)]))
    by_cases hc15 : (1 : Int32) < p2
    ·
      refine own_go (fun t_ k_ => XS.icmpNo A0.here hx rfl (hb hby d27_17) rfl (tlt hc15).2.2.2 k_) ?_
      show own_Go _ _ _ _ (T0.setTop (mkF m 20 #[.val (.ref r0), .val (.int p1), .val (.int p2), .val (.int p3), .val (.int p4)] []))
      refine own_go (fun t_ k_ => XS.aloadN A0.here hx rfl (hb hby d27_20) rfl rfl k_) ?_
      show own_Go _ _ _ _ (T0.setTop (mkF m 21 #[.val (.ref r0), .val (.int p1), .val (.int p2), .val (.int p3), .val (.int p4)] [(.ref r0)]))
      refine own_go (fun t_ k_ => XS.iloadN A0.here hx rfl (hb hby d27_21) rfl k_) ?_
      show own_Go _ _ _ _ (T0.setTop (mkF m 22 #[.val (.ref r0), .val (.int p1), .val (.int p2), .val (.int p3), .val (.int p4)] [(.int p1), (.ref r0)]))
      refine own_go (fun t_ k_ => XS.iconst A0.here hx rfl (hb hby d27_22) k_) ?_
      show own_Go _ _ _ _ (T0.setTop (mkF m 23 #[.val (.ref r0), .val (.int p1), .val (.int p2), .val (.int p3), .val (.int p4)] [(.int (1 : Int32)), (.int p1), (.ref r0)]))
      refine own_go (fun t_ k_ => XS.iadd A0.here hx rfl (hb hby d27_23) rfl k_) ?_
      show own_Go _ _ _ _ (T0.setTop (mkF m 24 #[.val (.ref r0), .val (.int p1), .val (.int p2), .val (.int p3), .val (.int p4)] [(.int (p1 + (1 : Int32))), (.ref r0)]))
      refine own_callV A0 hx hZ (y := (⟨"java/lang/String", "charAt", "(I)C"⟩ : MethodName)) (z := (⟨"java/lang/String", "charAt", "(I)C"⟩ : MethodName)) hown (hw _ (List.mem_of_getElem? (i := 158) rfl)) (hw _ (List.mem_of_getElem? (i := 159) rfl)) (hw _ (List.mem_of_getElem? (i := 161) rfl)) (hw _ (List.mem_of_getElem? (i := 160) rfl)) (hw _ (List.mem_of_getElem? (i := 8) rfl)) (hw _ (List.mem_of_getElem? (i := 162) rfl)) (notFace_of_selects (args := #[]) (mvT hZ (hw _ (List.mem_of_getElem? (i := 161) rfl)))) (by decide) (b := r0) (argsL := [(.int (p1 + (1 : Int32)))]) (rest := []) E0 (rm28 l Z a0 hw r0 (p1 + (1 : Int32)) t0 g z_C s_F nn h0 n0 E0 Fc Fv V0 (hB hc15).1.1 (hB hc15).1.2 S_C hz S_F hr_F) 0 (by decide) (by decide) rfl (by rw [hml]; rfl) (lenOf pd__I_C rfl) rfl (by show 2 * 0 + _ ≤ _; exact Nat.le_of_eq rfl) (hb hby d27_24) (by decide) (by decide) (fun v19 T16 h18 A17 hQ20 => ?_)
      obtain ⟨rfl, rfl⟩ := hQ20
      show own_Go _ _ _ _ (T16.setTop (mkF m 27 #[.val (.ref r0), .val (.int p1), .val (.int p2), .val (.int p3), .val (.int p4)] [(.int (f28 (p1 + (1 : Int32)) g z_C s_F nn))]))
      refine own_go (fun t_ k_ => XS.iload A17.here hx rfl (hb hby d27_27) rfl k_) ?_
      show own_Go _ _ _ _ (T16.setTop (mkF m 29 #[.val (.ref r0), .val (.int p1), .val (.int p2), .val (.int p3), .val (.int p4)] [(.int p4), (.int (f28 (p1 + (1 : Int32)) g z_C s_F nn))]))
      have hc21 : (f28 (p1 + (1 : Int32)) g z_C s_F nn) = p4 := (hB hc15).2
      refine own_go (fun t_ k_ => XS.icmpYes A17.here hx rfl (pc0 := 29) (pc' := 34) rfl (hb hby d27_29) rfl (teq hc21).1 (by decide) (by decide) k_) ?_
      show own_Go _ _ _ _ (T16.setTop (mkF m 34 #[.val (.ref r0), .val (.int p1), .val (.int p2), .val (.int p3), .val (.int p4)] []))
      refine own_go (fun t_ k_ => XS.iconst A17.here hx rfl (hb hby d27_34) k_) ?_
      show own_Go _ _ _ _ (T16.setTop (mkF m 35 #[.val (.ref r0), .val (.int p1), .val (.int p2), .val (.int p3), .val (.int p4)] [(.int (1 : Int32))]))
      refine own_retN A17 hx (t := .boolean) hret (by simp) hlk (by decide) (by decide) (hb hby d27_35) ?_
      exact ⟨rfl, rfl⟩
    ·
      refine own_go (fun t_ k_ => XS.icmpYes A0.here hx rfl (pc0 := 17) (pc' := 34) rfl (hb hby d27_17) rfl (flt hc15).2.2.2 (by decide) (by decide) k_) ?_
      show own_Go _ _ _ _ (T0.setTop (mkF m 34 #[.val (.ref r0), .val (.int p1), .val (.int p2), .val (.int p3), .val (.int p4)] []))
      refine own_go (fun t_ k_ => XS.iconst A0.here hx rfl (hb hby d27_34) k_) ?_
      show own_Go _ _ _ _ (T0.setTop (mkF m 35 #[.val (.ref r0), .val (.int p1), .val (.int p2), .val (.int p3), .val (.int p4)] [(.int (1 : Int32))]))
      refine own_retN A0 hx (t := .boolean) hret (by simp) hlk (by decide) (by decide) (hb hby d27_35) ?_
      exact ⟨rfl, rfl⟩
theorem own_at {g : Int32 → Int32} {z_C : Int32} {s_F : Value} {zs : List Int32} (P : own_Pre g zs) {k : Nat} (hk : k < zs.length) {b c : Int32} (e : zs.getD k 0 = b) (hc : nar .char (nar .char ((b &&& (255 : Int32)).toUInt32.toUInt16.toUInt32.toInt32)) = c) : f28 (Int32.ofNat k) g z_C s_F zs.length = c := by
  rw [← hc, ← e, ← P k hk]
  rfl
theorem own_in {n k : Nat} (hk : k < n) (hn : n < 2 ^ 31) : ¬ Int32.ofNat k < 0 ∧ Int32.ofNat k < Int32.ofNat n := ⟨own_nn (by omega), (own_nlt (by omega) hn).mpr hk⟩
theorem ef_0 (m : MethodId) (p0 : Int32) (p1 : Int32) (p2 : Int32) : entryFrame m #[(.int p0), (.int p1), (.int p2)] maxLocals = mkF m 0 #[.val (.int p0), .val (.int p1), .val (.int p2), .unset, .unset, .unset, .unset, .unset, .unset, .unset, .unset, .unset, .unset, .unset, .unset] [] := by first | (simp [entryFrame, mkF, argsToLocals, Value.category, maxLocals]; done) | rfl
theorem pd__ICC_Ljava_lang_String_ : parseMethodDescriptor "(ICC)Ljava/lang/String;" = some ⟨[.int, .char, .char], some (.object "java/lang/String")⟩ := by decide +kernel
theorem pd__Ljava_lang_String_Ljava_lang_String_Ljava_lang_String__V : parseMethodDescriptor "(Ljava/lang/String;Ljava/lang/String;Ljava/lang/String;)V" = some ⟨[(.object "java/lang/String"), (.object "java/lang/String"), (.object "java/lang/String")], none⟩ := by decide +kernel
theorem pd__Ljava_lang_String_IICC_Z : parseMethodDescriptor "(Ljava/lang/String;IICC)Z" = some ⟨[(.object "java/lang/String"), .int, .int, .char, .char], some .boolean⟩ := by decide +kernel
set_option maxRecDepth 65536 in
set_option maxHeartbeats 40000000 in
theorem rm0 (l : Launch) (Z : State) (a0 : Array Value) (hw : ∀ d ∈ tables_1, d.before a0 Z = true) (p0 : Int32) (p1 : Int32) (p2 : Int32) (z_C : Int32) (s_F : Value) (h0 : Heap) (n0 : Nat) (O0 : Old Z n0 h0) (Z0 : n0 ≤ h0.size) (hz : ¬ z_C = 0) (hr_F : s_F.isRef = true) (S_COMPACT_STRINGS : Sta Z Z.heap "java/lang/String" "COMPACT_STRINGS" "Z" (.int z_C)) (S_SIOOBE_FORMATTER : Sta Z Z.heap "jdk/internal/util/Preconditions" "SIOOBE_FORMATTER" "Ljava/util/function/BiFunction;" s_F) :
    own_MetC l Z consts_1 n0 x code maxLocals ret room_1 #[(.int p0), (.int p1), (.int p2)] h0 (fun v h => v = some (.int 1) ∧ True) := by
  refine own_metC (plainFor_of_name pn_1) ?_
  intro p e s m below meth c T0 hx hby hml hown hnm hret hlk hZ A0 hs0 hS C0
  have hEL := own_EW hw
  have hret : meth.sig.returnType = some .boolean := hret
  rw [ef_0]
  show own_Go _ _ _ _ (T0.setTop (mkF m 0 #[.val (.int p0), .val (.int p1), .val (.int p2), .unset, .unset, .unset, .unset, .unset, .unset, .unset, .unset, .unset, .unset, .unset, .unset] []))
  refine own_go (fun t_ k_ => XS.iloadN A0.here hx rfl (hb hby at_0) rfl k_) ?_
  show own_Go _ _ _ _ (T0.setTop (mkF m 1 #[.val (.int p0), .val (.int p1), .val (.int p2), .unset, .unset, .unset, .unset, .unset, .unset, .unset, .unset, .unset, .unset, .unset, .unset] [(.int p0)]))
  refine own_go (fun t_ k_ => XS.bipush A0.here hx rfl (hb hby at_1) k_) ?_
  show own_Go _ _ _ _ (T0.setTop (mkF m 3 #[.val (.int p0), .val (.int p1), .val (.int p2), .unset, .unset, .unset, .unset, .unset, .unset, .unset, .unset, .unset, .unset, .unset, .unset] [(.int (16 : Int32)), (.int p0)]))
  refine own_go (fun t_ k_ => XS.iushr A0.here hx rfl (hb hby at_3) rfl k_) ?_
  show own_Go _ _ _ _ (T0.setTop (mkF m 4 #[.val (.int p0), .val (.int p1), .val (.int p2), .unset, .unset, .unset, .unset, .unset, .unset, .unset, .unset, .unset, .unset, .unset, .unset] [(.int ((p0.toUInt32 >>> ((16 : Int32) &&& 31).toUInt32).toInt32))]))
  refine own_go (fun t_ k_ => XS.iconst A0.here hx rfl (hb hby at_4) k_) ?_
  show own_Go _ _ _ _ (T0.setTop (mkF m 5 #[.val (.int p0), .val (.int p1), .val (.int p2), .unset, .unset, .unset, .unset, .unset, .unset, .unset, .unset, .unset, .unset, .unset, .unset] [(.int (3 : Int32)), (.int ((p0.toUInt32 >>> ((16 : Int32) &&& 31).toUInt32).toInt32))]))
  refine own_go (fun t_ k_ => own_irem A0.here hx rfl (hb hby at_5) rfl (by decide) k_) ?_
  show own_Go _ _ _ _ (T0.setTop (mkF m 6 #[.val (.int p0), .val (.int p1), .val (.int p2), .unset, .unset, .unset, .unset, .unset, .unset, .unset, .unset, .unset, .unset, .unset, .unset] [(.int (((p0.toUInt32 >>> ((16 : Int32) &&& 31).toUInt32).toInt32) % (3 : Int32)))]))
  obtain ⟨n1, hn1, en1⟩ := own_mod3 p0
  rw [en1]
  show own_Go _ _ _ _ (T0.setTop (mkF m 6 #[.val (.int p0), .val (.int p1), .val (.int p2), .unset, .unset, .unset, .unset, .unset, .unset, .unset, .unset, .unset, .unset, .unset, .unset] [(.int (Int32.ofNat n1))]))
  refine own_go (fun t_ k_ => XS.istoreN A0.here hx rfl (hb hby at_6) rfl (l' := #[.val (.int p0), .val (.int p1), .val (.int p2), .val (.int (Int32.ofNat n1)), .unset, .unset, .unset, .unset, .unset, .unset, .unset, .unset, .unset, .unset, .unset]) rfl k_) ?_
  show own_Go _ _ _ _ (T0.setTop (mkF m 7 #[.val (.int p0), .val (.int p1), .val (.int p2), .val (.int (Int32.ofNat n1)), .unset, .unset, .unset, .unset, .unset, .unset, .unset, .unset, .unset, .unset, .unset] []))
  refine own_go (fun t_ k_ => XS.iloadN A0.here hx rfl (hb hby at_7) rfl k_) ?_
  show own_Go _ _ _ _ (T0.setTop (mkF m 8 #[.val (.int p0), .val (.int p1), .val (.int p2), .val (.int (Int32.ofNat n1)), .unset, .unset, .unset, .unset, .unset, .unset, .unset, .unset, .unset, .unset, .unset] [(.int p0)]))
  refine own_go (fun t_ k_ => XS.sipush A0.here hx rfl (hb hby at_8) k_) ?_
  show own_Go _ _ _ _ (T0.setTop (mkF m 11 #[.val (.int p0), .val (.int p1), .val (.int p2), .val (.int (Int32.ofNat n1)), .unset, .unset, .unset, .unset, .unset, .unset, .unset, .unset, .unset, .unset, .unset] [(.int (255 : Int32)), (.int p0)]))
  refine own_go (fun t_ k_ => XS.iand A0.here hx rfl (hb hby at_11) rfl k_) ?_
  show own_Go _ _ _ _ (T0.setTop (mkF m 12 #[.val (.int p0), .val (.int p1), .val (.int p2), .val (.int (Int32.ofNat n1)), .unset, .unset, .unset, .unset, .unset, .unset, .unset, .unset, .unset, .unset, .unset] [(.int (p0 &&& (255 : Int32)))]))
  refine own_go (fun t_ k_ => XS.i2c A0.here hx rfl (hb hby at_12) rfl k_) ?_
  show own_Go _ _ _ _ (T0.setTop (mkF m 13 #[.val (.int p0), .val (.int p1), .val (.int p2), .val (.int (Int32.ofNat n1)), .unset, .unset, .unset, .unset, .unset, .unset, .unset, .unset, .unset, .unset, .unset] [(.int ((p0 &&& (255 : Int32)).toUInt32.toUInt16.toUInt32.toInt32))]))
  obtain ⟨ca, hca, eca⟩ := own_ch255 p0
  rw [eca]
  show own_Go _ _ _ _ (T0.setTop (mkF m 13 #[.val (.int p0), .val (.int p1), .val (.int p2), .val (.int (Int32.ofNat n1)), .unset, .unset, .unset, .unset, .unset, .unset, .unset, .unset, .unset, .unset, .unset] [(.int ca)]))
  refine own_go (fun t_ k_ => XS.istore A0.here hx rfl (hb hby at_13) rfl (l' := #[.val (.int p0), .val (.int p1), .val (.int p2), .val (.int (Int32.ofNat n1)), .val (.int ca), .unset, .unset, .unset, .unset, .unset, .unset, .unset, .unset, .unset, .unset]) rfl k_) ?_
  show own_Go _ _ _ _ (T0.setTop (mkF m 15 #[.val (.int p0), .val (.int p1), .val (.int p2), .val (.int (Int32.ofNat n1)), .val (.int ca), .unset, .unset, .unset, .unset, .unset, .unset, .unset, .unset, .unset, .unset] []))
  refine own_go (fun t_ k_ => XS.iloadN A0.here hx rfl (hb hby at_15) rfl k_) ?_
  show own_Go _ _ _ _ (T0.setTop (mkF m 16 #[.val (.int p0), .val (.int p1), .val (.int p2), .val (.int (Int32.ofNat n1)), .val (.int ca), .unset, .unset, .unset, .unset, .unset, .unset, .unset, .unset, .unset, .unset] [(.int p0)]))
  refine own_go (fun t_ k_ => XS.bipush A0.here hx rfl (hb hby at_16) k_) ?_
  show own_Go _ _ _ _ (T0.setTop (mkF m 18 #[.val (.int p0), .val (.int p1), .val (.int p2), .val (.int (Int32.ofNat n1)), .val (.int ca), .unset, .unset, .unset, .unset, .unset, .unset, .unset, .unset, .unset, .unset] [(.int (8 : Int32)), (.int p0)]))
  refine own_go (fun t_ k_ => XS.iushr A0.here hx rfl (hb hby at_18) rfl k_) ?_
  show own_Go _ _ _ _ (T0.setTop (mkF m 19 #[.val (.int p0), .val (.int p1), .val (.int p2), .val (.int (Int32.ofNat n1)), .val (.int ca), .unset, .unset, .unset, .unset, .unset, .unset, .unset, .unset, .unset, .unset] [(.int ((p0.toUInt32 >>> ((8 : Int32) &&& 31).toUInt32).toInt32))]))
  refine own_go (fun t_ k_ => XS.sipush A0.here hx rfl (hb hby at_19) k_) ?_
  show own_Go _ _ _ _ (T0.setTop (mkF m 22 #[.val (.int p0), .val (.int p1), .val (.int p2), .val (.int (Int32.ofNat n1)), .val (.int ca), .unset, .unset, .unset, .unset, .unset, .unset, .unset, .unset, .unset, .unset] [(.int (255 : Int32)), (.int ((p0.toUInt32 >>> ((8 : Int32) &&& 31).toUInt32).toInt32))]))
  refine own_go (fun t_ k_ => XS.iand A0.here hx rfl (hb hby at_22) rfl k_) ?_
  show own_Go _ _ _ _ (T0.setTop (mkF m 23 #[.val (.int p0), .val (.int p1), .val (.int p2), .val (.int (Int32.ofNat n1)), .val (.int ca), .unset, .unset, .unset, .unset, .unset, .unset, .unset, .unset, .unset, .unset] [(.int (((p0.toUInt32 >>> ((8 : Int32) &&& 31).toUInt32).toInt32) &&& (255 : Int32)))]))
  refine own_go (fun t_ k_ => XS.i2c A0.here hx rfl (hb hby at_23) rfl k_) ?_
  show own_Go _ _ _ _ (T0.setTop (mkF m 24 #[.val (.int p0), .val (.int p1), .val (.int p2), .val (.int (Int32.ofNat n1)), .val (.int ca), .unset, .unset, .unset, .unset, .unset, .unset, .unset, .unset, .unset, .unset] [(.int ((((p0.toUInt32 >>> ((8 : Int32) &&& 31).toUInt32).toInt32) &&& (255 : Int32)).toUInt32.toUInt16.toUInt32.toInt32))]))
  obtain ⟨cb, hcb, ecb⟩ := own_ch255 ((p0.toUInt32 >>> ((8 : Int32) &&& 31).toUInt32).toInt32)
  rw [ecb]
  show own_Go _ _ _ _ (T0.setTop (mkF m 24 #[.val (.int p0), .val (.int p1), .val (.int p2), .val (.int (Int32.ofNat n1)), .val (.int ca), .unset, .unset, .unset, .unset, .unset, .unset, .unset, .unset, .unset, .unset] [(.int cb)]))
  refine own_go (fun t_ k_ => XS.istore A0.here hx rfl (hb hby at_24) rfl (l' := #[.val (.int p0), .val (.int p1), .val (.int p2), .val (.int (Int32.ofNat n1)), .val (.int ca), .val (.int cb), .unset, .unset, .unset, .unset, .unset, .unset, .unset, .unset, .unset]) rfl k_) ?_
  show own_Go _ _ _ _ (T0.setTop (mkF m 26 #[.val (.int p0), .val (.int p1), .val (.int p2), .val (.int (Int32.ofNat n1)), .val (.int ca), .val (.int cb), .unset, .unset, .unset, .unset, .unset, .unset, .unset, .unset, .unset] []))
  refine own_go (fun t_ k_ => XS.iloadN A0.here hx rfl (hb hby at_26) rfl k_) ?_
  show own_Go _ _ _ _ (T0.setTop (mkF m 27 #[.val (.int p0), .val (.int p1), .val (.int p2), .val (.int (Int32.ofNat n1)), .val (.int ca), .val (.int cb), .unset, .unset, .unset, .unset, .unset, .unset, .unset, .unset, .unset] [(.int p1)]))
  refine own_go (fun t_ k_ => XS.bipush A0.here hx rfl (hb hby at_27) k_) ?_
  show own_Go _ _ _ _ (T0.setTop (mkF m 29 #[.val (.int p0), .val (.int p1), .val (.int p2), .val (.int (Int32.ofNat n1)), .val (.int ca), .val (.int cb), .unset, .unset, .unset, .unset, .unset, .unset, .unset, .unset, .unset] [(.int (16 : Int32)), (.int p1)]))
  refine own_go (fun t_ k_ => XS.iushr A0.here hx rfl (hb hby at_29) rfl k_) ?_
  show own_Go _ _ _ _ (T0.setTop (mkF m 30 #[.val (.int p0), .val (.int p1), .val (.int p2), .val (.int (Int32.ofNat n1)), .val (.int ca), .val (.int cb), .unset, .unset, .unset, .unset, .unset, .unset, .unset, .unset, .unset] [(.int ((p1.toUInt32 >>> ((16 : Int32) &&& 31).toUInt32).toInt32))]))
  refine own_go (fun t_ k_ => XS.iconst A0.here hx rfl (hb hby at_30) k_) ?_
  show own_Go _ _ _ _ (T0.setTop (mkF m 31 #[.val (.int p0), .val (.int p1), .val (.int p2), .val (.int (Int32.ofNat n1)), .val (.int ca), .val (.int cb), .unset, .unset, .unset, .unset, .unset, .unset, .unset, .unset, .unset] [(.int (3 : Int32)), (.int ((p1.toUInt32 >>> ((16 : Int32) &&& 31).toUInt32).toInt32))]))
  refine own_go (fun t_ k_ => own_irem A0.here hx rfl (hb hby at_31) rfl (by decide) k_) ?_
  show own_Go _ _ _ _ (T0.setTop (mkF m 32 #[.val (.int p0), .val (.int p1), .val (.int p2), .val (.int (Int32.ofNat n1)), .val (.int ca), .val (.int cb), .unset, .unset, .unset, .unset, .unset, .unset, .unset, .unset, .unset] [(.int (((p1.toUInt32 >>> ((16 : Int32) &&& 31).toUInt32).toInt32) % (3 : Int32)))]))
  obtain ⟨n2, hn2, en2⟩ := own_mod3 p1
  rw [en2]
  show own_Go _ _ _ _ (T0.setTop (mkF m 32 #[.val (.int p0), .val (.int p1), .val (.int p2), .val (.int (Int32.ofNat n1)), .val (.int ca), .val (.int cb), .unset, .unset, .unset, .unset, .unset, .unset, .unset, .unset, .unset] [(.int (Int32.ofNat n2))]))
  refine own_go (fun t_ k_ => XS.istore A0.here hx rfl (hb hby at_32) rfl (l' := #[.val (.int p0), .val (.int p1), .val (.int p2), .val (.int (Int32.ofNat n1)), .val (.int ca), .val (.int cb), .val (.int (Int32.ofNat n2)), .unset, .unset, .unset, .unset, .unset, .unset, .unset, .unset]) rfl k_) ?_
  show own_Go _ _ _ _ (T0.setTop (mkF m 34 #[.val (.int p0), .val (.int p1), .val (.int p2), .val (.int (Int32.ofNat n1)), .val (.int ca), .val (.int cb), .val (.int (Int32.ofNat n2)), .unset, .unset, .unset, .unset, .unset, .unset, .unset, .unset] []))
  refine own_go (fun t_ k_ => XS.iloadN A0.here hx rfl (hb hby at_34) rfl k_) ?_
  show own_Go _ _ _ _ (T0.setTop (mkF m 35 #[.val (.int p0), .val (.int p1), .val (.int p2), .val (.int (Int32.ofNat n1)), .val (.int ca), .val (.int cb), .val (.int (Int32.ofNat n2)), .unset, .unset, .unset, .unset, .unset, .unset, .unset, .unset] [(.int p1)]))
  refine own_go (fun t_ k_ => XS.sipush A0.here hx rfl (hb hby at_35) k_) ?_
  show own_Go _ _ _ _ (T0.setTop (mkF m 38 #[.val (.int p0), .val (.int p1), .val (.int p2), .val (.int (Int32.ofNat n1)), .val (.int ca), .val (.int cb), .val (.int (Int32.ofNat n2)), .unset, .unset, .unset, .unset, .unset, .unset, .unset, .unset] [(.int (255 : Int32)), (.int p1)]))
  refine own_go (fun t_ k_ => XS.iand A0.here hx rfl (hb hby at_38) rfl k_) ?_
  show own_Go _ _ _ _ (T0.setTop (mkF m 39 #[.val (.int p0), .val (.int p1), .val (.int p2), .val (.int (Int32.ofNat n1)), .val (.int ca), .val (.int cb), .val (.int (Int32.ofNat n2)), .unset, .unset, .unset, .unset, .unset, .unset, .unset, .unset] [(.int (p1 &&& (255 : Int32)))]))
  refine own_go (fun t_ k_ => XS.i2c A0.here hx rfl (hb hby at_39) rfl k_) ?_
  show own_Go _ _ _ _ (T0.setTop (mkF m 40 #[.val (.int p0), .val (.int p1), .val (.int p2), .val (.int (Int32.ofNat n1)), .val (.int ca), .val (.int cb), .val (.int (Int32.ofNat n2)), .unset, .unset, .unset, .unset, .unset, .unset, .unset, .unset] [(.int ((p1 &&& (255 : Int32)).toUInt32.toUInt16.toUInt32.toInt32))]))
  obtain ⟨cc, hcc, ecc⟩ := own_ch255 p1
  rw [ecc]
  show own_Go _ _ _ _ (T0.setTop (mkF m 40 #[.val (.int p0), .val (.int p1), .val (.int p2), .val (.int (Int32.ofNat n1)), .val (.int ca), .val (.int cb), .val (.int (Int32.ofNat n2)), .unset, .unset, .unset, .unset, .unset, .unset, .unset, .unset] [(.int cc)]))
  refine own_go (fun t_ k_ => XS.istore A0.here hx rfl (hb hby at_40) rfl (l' := #[.val (.int p0), .val (.int p1), .val (.int p2), .val (.int (Int32.ofNat n1)), .val (.int ca), .val (.int cb), .val (.int (Int32.ofNat n2)), .val (.int cc), .unset, .unset, .unset, .unset, .unset, .unset, .unset]) rfl k_) ?_
  show own_Go _ _ _ _ (T0.setTop (mkF m 42 #[.val (.int p0), .val (.int p1), .val (.int p2), .val (.int (Int32.ofNat n1)), .val (.int ca), .val (.int cb), .val (.int (Int32.ofNat n2)), .val (.int cc), .unset, .unset, .unset, .unset, .unset, .unset, .unset] []))
  refine own_go (fun t_ k_ => XS.iloadN A0.here hx rfl (hb hby at_42) rfl k_) ?_
  show own_Go _ _ _ _ (T0.setTop (mkF m 43 #[.val (.int p0), .val (.int p1), .val (.int p2), .val (.int (Int32.ofNat n1)), .val (.int ca), .val (.int cb), .val (.int (Int32.ofNat n2)), .val (.int cc), .unset, .unset, .unset, .unset, .unset, .unset, .unset] [(.int p1)]))
  refine own_go (fun t_ k_ => XS.bipush A0.here hx rfl (hb hby at_43) k_) ?_
  show own_Go _ _ _ _ (T0.setTop (mkF m 45 #[.val (.int p0), .val (.int p1), .val (.int p2), .val (.int (Int32.ofNat n1)), .val (.int ca), .val (.int cb), .val (.int (Int32.ofNat n2)), .val (.int cc), .unset, .unset, .unset, .unset, .unset, .unset, .unset] [(.int (8 : Int32)), (.int p1)]))
  refine own_go (fun t_ k_ => XS.iushr A0.here hx rfl (hb hby at_45) rfl k_) ?_
  show own_Go _ _ _ _ (T0.setTop (mkF m 46 #[.val (.int p0), .val (.int p1), .val (.int p2), .val (.int (Int32.ofNat n1)), .val (.int ca), .val (.int cb), .val (.int (Int32.ofNat n2)), .val (.int cc), .unset, .unset, .unset, .unset, .unset, .unset, .unset] [(.int ((p1.toUInt32 >>> ((8 : Int32) &&& 31).toUInt32).toInt32))]))
  refine own_go (fun t_ k_ => XS.sipush A0.here hx rfl (hb hby at_46) k_) ?_
  show own_Go _ _ _ _ (T0.setTop (mkF m 49 #[.val (.int p0), .val (.int p1), .val (.int p2), .val (.int (Int32.ofNat n1)), .val (.int ca), .val (.int cb), .val (.int (Int32.ofNat n2)), .val (.int cc), .unset, .unset, .unset, .unset, .unset, .unset, .unset] [(.int (255 : Int32)), (.int ((p1.toUInt32 >>> ((8 : Int32) &&& 31).toUInt32).toInt32))]))
  refine own_go (fun t_ k_ => XS.iand A0.here hx rfl (hb hby at_49) rfl k_) ?_
  show own_Go _ _ _ _ (T0.setTop (mkF m 50 #[.val (.int p0), .val (.int p1), .val (.int p2), .val (.int (Int32.ofNat n1)), .val (.int ca), .val (.int cb), .val (.int (Int32.ofNat n2)), .val (.int cc), .unset, .unset, .unset, .unset, .unset, .unset, .unset] [(.int (((p1.toUInt32 >>> ((8 : Int32) &&& 31).toUInt32).toInt32) &&& (255 : Int32)))]))
  refine own_go (fun t_ k_ => XS.i2c A0.here hx rfl (hb hby at_50) rfl k_) ?_
  show own_Go _ _ _ _ (T0.setTop (mkF m 51 #[.val (.int p0), .val (.int p1), .val (.int p2), .val (.int (Int32.ofNat n1)), .val (.int ca), .val (.int cb), .val (.int (Int32.ofNat n2)), .val (.int cc), .unset, .unset, .unset, .unset, .unset, .unset, .unset] [(.int ((((p1.toUInt32 >>> ((8 : Int32) &&& 31).toUInt32).toInt32) &&& (255 : Int32)).toUInt32.toUInt16.toUInt32.toInt32))]))
  obtain ⟨cd, hcd, ecd⟩ := own_ch255 ((p1.toUInt32 >>> ((8 : Int32) &&& 31).toUInt32).toInt32)
  rw [ecd]
  show own_Go _ _ _ _ (T0.setTop (mkF m 51 #[.val (.int p0), .val (.int p1), .val (.int p2), .val (.int (Int32.ofNat n1)), .val (.int ca), .val (.int cb), .val (.int (Int32.ofNat n2)), .val (.int cc), .unset, .unset, .unset, .unset, .unset, .unset, .unset] [(.int cd)]))
  refine own_go (fun t_ k_ => XS.istore A0.here hx rfl (hb hby at_51) rfl (l' := #[.val (.int p0), .val (.int p1), .val (.int p2), .val (.int (Int32.ofNat n1)), .val (.int ca), .val (.int cb), .val (.int (Int32.ofNat n2)), .val (.int cc), .val (.int cd), .unset, .unset, .unset, .unset, .unset, .unset]) rfl k_) ?_
  show own_Go _ _ _ _ (T0.setTop (mkF m 53 #[.val (.int p0), .val (.int p1), .val (.int p2), .val (.int (Int32.ofNat n1)), .val (.int ca), .val (.int cb), .val (.int (Int32.ofNat n2)), .val (.int cc), .val (.int cd), .unset, .unset, .unset, .unset, .unset, .unset] []))
  refine own_go (fun t_ k_ => XS.iloadN A0.here hx rfl (hb hby at_53) rfl k_) ?_
  show own_Go _ _ _ _ (T0.setTop (mkF m 54 #[.val (.int p0), .val (.int p1), .val (.int p2), .val (.int (Int32.ofNat n1)), .val (.int ca), .val (.int cb), .val (.int (Int32.ofNat n2)), .val (.int cc), .val (.int cd), .unset, .unset, .unset, .unset, .unset, .unset] [(.int p2)]))
  refine own_go (fun t_ k_ => XS.bipush A0.here hx rfl (hb hby at_54) k_) ?_
  show own_Go _ _ _ _ (T0.setTop (mkF m 56 #[.val (.int p0), .val (.int p1), .val (.int p2), .val (.int (Int32.ofNat n1)), .val (.int ca), .val (.int cb), .val (.int (Int32.ofNat n2)), .val (.int cc), .val (.int cd), .unset, .unset, .unset, .unset, .unset, .unset] [(.int (16 : Int32)), (.int p2)]))
  refine own_go (fun t_ k_ => XS.iushr A0.here hx rfl (hb hby at_56) rfl k_) ?_
  show own_Go _ _ _ _ (T0.setTop (mkF m 57 #[.val (.int p0), .val (.int p1), .val (.int p2), .val (.int (Int32.ofNat n1)), .val (.int ca), .val (.int cb), .val (.int (Int32.ofNat n2)), .val (.int cc), .val (.int cd), .unset, .unset, .unset, .unset, .unset, .unset] [(.int ((p2.toUInt32 >>> ((16 : Int32) &&& 31).toUInt32).toInt32))]))
  refine own_go (fun t_ k_ => XS.iconst A0.here hx rfl (hb hby at_57) k_) ?_
  show own_Go _ _ _ _ (T0.setTop (mkF m 58 #[.val (.int p0), .val (.int p1), .val (.int p2), .val (.int (Int32.ofNat n1)), .val (.int ca), .val (.int cb), .val (.int (Int32.ofNat n2)), .val (.int cc), .val (.int cd), .unset, .unset, .unset, .unset, .unset, .unset] [(.int (3 : Int32)), (.int ((p2.toUInt32 >>> ((16 : Int32) &&& 31).toUInt32).toInt32))]))
  refine own_go (fun t_ k_ => own_irem A0.here hx rfl (hb hby at_58) rfl (by decide) k_) ?_
  show own_Go _ _ _ _ (T0.setTop (mkF m 59 #[.val (.int p0), .val (.int p1), .val (.int p2), .val (.int (Int32.ofNat n1)), .val (.int ca), .val (.int cb), .val (.int (Int32.ofNat n2)), .val (.int cc), .val (.int cd), .unset, .unset, .unset, .unset, .unset, .unset] [(.int (((p2.toUInt32 >>> ((16 : Int32) &&& 31).toUInt32).toInt32) % (3 : Int32)))]))
  obtain ⟨n3, hn3, en3⟩ := own_mod3 p2
  rw [en3]
  show own_Go _ _ _ _ (T0.setTop (mkF m 59 #[.val (.int p0), .val (.int p1), .val (.int p2), .val (.int (Int32.ofNat n1)), .val (.int ca), .val (.int cb), .val (.int (Int32.ofNat n2)), .val (.int cc), .val (.int cd), .unset, .unset, .unset, .unset, .unset, .unset] [(.int (Int32.ofNat n3))]))
  refine own_go (fun t_ k_ => XS.istore A0.here hx rfl (hb hby at_59) rfl (l' := #[.val (.int p0), .val (.int p1), .val (.int p2), .val (.int (Int32.ofNat n1)), .val (.int ca), .val (.int cb), .val (.int (Int32.ofNat n2)), .val (.int cc), .val (.int cd), .val (.int (Int32.ofNat n3)), .unset, .unset, .unset, .unset, .unset]) rfl k_) ?_
  show own_Go _ _ _ _ (T0.setTop (mkF m 61 #[.val (.int p0), .val (.int p1), .val (.int p2), .val (.int (Int32.ofNat n1)), .val (.int ca), .val (.int cb), .val (.int (Int32.ofNat n2)), .val (.int cc), .val (.int cd), .val (.int (Int32.ofNat n3)), .unset, .unset, .unset, .unset, .unset] []))
  refine own_go (fun t_ k_ => XS.iloadN A0.here hx rfl (hb hby at_61) rfl k_) ?_
  show own_Go _ _ _ _ (T0.setTop (mkF m 62 #[.val (.int p0), .val (.int p1), .val (.int p2), .val (.int (Int32.ofNat n1)), .val (.int ca), .val (.int cb), .val (.int (Int32.ofNat n2)), .val (.int cc), .val (.int cd), .val (.int (Int32.ofNat n3)), .unset, .unset, .unset, .unset, .unset] [(.int p2)]))
  refine own_go (fun t_ k_ => XS.sipush A0.here hx rfl (hb hby at_62) k_) ?_
  show own_Go _ _ _ _ (T0.setTop (mkF m 65 #[.val (.int p0), .val (.int p1), .val (.int p2), .val (.int (Int32.ofNat n1)), .val (.int ca), .val (.int cb), .val (.int (Int32.ofNat n2)), .val (.int cc), .val (.int cd), .val (.int (Int32.ofNat n3)), .unset, .unset, .unset, .unset, .unset] [(.int (255 : Int32)), (.int p2)]))
  refine own_go (fun t_ k_ => XS.iand A0.here hx rfl (hb hby at_65) rfl k_) ?_
  show own_Go _ _ _ _ (T0.setTop (mkF m 66 #[.val (.int p0), .val (.int p1), .val (.int p2), .val (.int (Int32.ofNat n1)), .val (.int ca), .val (.int cb), .val (.int (Int32.ofNat n2)), .val (.int cc), .val (.int cd), .val (.int (Int32.ofNat n3)), .unset, .unset, .unset, .unset, .unset] [(.int (p2 &&& (255 : Int32)))]))
  refine own_go (fun t_ k_ => XS.i2c A0.here hx rfl (hb hby at_66) rfl k_) ?_
  show own_Go _ _ _ _ (T0.setTop (mkF m 67 #[.val (.int p0), .val (.int p1), .val (.int p2), .val (.int (Int32.ofNat n1)), .val (.int ca), .val (.int cb), .val (.int (Int32.ofNat n2)), .val (.int cc), .val (.int cd), .val (.int (Int32.ofNat n3)), .unset, .unset, .unset, .unset, .unset] [(.int ((p2 &&& (255 : Int32)).toUInt32.toUInt16.toUInt32.toInt32))]))
  obtain ⟨ce, hce, ece⟩ := own_ch255 p2
  rw [ece]
  show own_Go _ _ _ _ (T0.setTop (mkF m 67 #[.val (.int p0), .val (.int p1), .val (.int p2), .val (.int (Int32.ofNat n1)), .val (.int ca), .val (.int cb), .val (.int (Int32.ofNat n2)), .val (.int cc), .val (.int cd), .val (.int (Int32.ofNat n3)), .unset, .unset, .unset, .unset, .unset] [(.int ce)]))
  refine own_go (fun t_ k_ => XS.istore A0.here hx rfl (hb hby at_67) rfl (l' := #[.val (.int p0), .val (.int p1), .val (.int p2), .val (.int (Int32.ofNat n1)), .val (.int ca), .val (.int cb), .val (.int (Int32.ofNat n2)), .val (.int cc), .val (.int cd), .val (.int (Int32.ofNat n3)), .val (.int ce), .unset, .unset, .unset, .unset]) rfl k_) ?_
  show own_Go _ _ _ _ (T0.setTop (mkF m 69 #[.val (.int p0), .val (.int p1), .val (.int p2), .val (.int (Int32.ofNat n1)), .val (.int ca), .val (.int cb), .val (.int (Int32.ofNat n2)), .val (.int cc), .val (.int cd), .val (.int (Int32.ofNat n3)), .val (.int ce), .unset, .unset, .unset, .unset] []))
  refine own_go (fun t_ k_ => XS.iloadN A0.here hx rfl (hb hby at_69) rfl k_) ?_
  show own_Go _ _ _ _ (T0.setTop (mkF m 70 #[.val (.int p0), .val (.int p1), .val (.int p2), .val (.int (Int32.ofNat n1)), .val (.int ca), .val (.int cb), .val (.int (Int32.ofNat n2)), .val (.int cc), .val (.int cd), .val (.int (Int32.ofNat n3)), .val (.int ce), .unset, .unset, .unset, .unset] [(.int p2)]))
  refine own_go (fun t_ k_ => XS.bipush A0.here hx rfl (hb hby at_70) k_) ?_
  show own_Go _ _ _ _ (T0.setTop (mkF m 72 #[.val (.int p0), .val (.int p1), .val (.int p2), .val (.int (Int32.ofNat n1)), .val (.int ca), .val (.int cb), .val (.int (Int32.ofNat n2)), .val (.int cc), .val (.int cd), .val (.int (Int32.ofNat n3)), .val (.int ce), .unset, .unset, .unset, .unset] [(.int (8 : Int32)), (.int p2)]))
  refine own_go (fun t_ k_ => XS.iushr A0.here hx rfl (hb hby at_72) rfl k_) ?_
  show own_Go _ _ _ _ (T0.setTop (mkF m 73 #[.val (.int p0), .val (.int p1), .val (.int p2), .val (.int (Int32.ofNat n1)), .val (.int ca), .val (.int cb), .val (.int (Int32.ofNat n2)), .val (.int cc), .val (.int cd), .val (.int (Int32.ofNat n3)), .val (.int ce), .unset, .unset, .unset, .unset] [(.int ((p2.toUInt32 >>> ((8 : Int32) &&& 31).toUInt32).toInt32))]))
  refine own_go (fun t_ k_ => XS.sipush A0.here hx rfl (hb hby at_73) k_) ?_
  show own_Go _ _ _ _ (T0.setTop (mkF m 76 #[.val (.int p0), .val (.int p1), .val (.int p2), .val (.int (Int32.ofNat n1)), .val (.int ca), .val (.int cb), .val (.int (Int32.ofNat n2)), .val (.int cc), .val (.int cd), .val (.int (Int32.ofNat n3)), .val (.int ce), .unset, .unset, .unset, .unset] [(.int (255 : Int32)), (.int ((p2.toUInt32 >>> ((8 : Int32) &&& 31).toUInt32).toInt32))]))
  refine own_go (fun t_ k_ => XS.iand A0.here hx rfl (hb hby at_76) rfl k_) ?_
  show own_Go _ _ _ _ (T0.setTop (mkF m 77 #[.val (.int p0), .val (.int p1), .val (.int p2), .val (.int (Int32.ofNat n1)), .val (.int ca), .val (.int cb), .val (.int (Int32.ofNat n2)), .val (.int cc), .val (.int cd), .val (.int (Int32.ofNat n3)), .val (.int ce), .unset, .unset, .unset, .unset] [(.int (((p2.toUInt32 >>> ((8 : Int32) &&& 31).toUInt32).toInt32) &&& (255 : Int32)))]))
  refine own_go (fun t_ k_ => XS.i2c A0.here hx rfl (hb hby at_77) rfl k_) ?_
  show own_Go _ _ _ _ (T0.setTop (mkF m 78 #[.val (.int p0), .val (.int p1), .val (.int p2), .val (.int (Int32.ofNat n1)), .val (.int ca), .val (.int cb), .val (.int (Int32.ofNat n2)), .val (.int cc), .val (.int cd), .val (.int (Int32.ofNat n3)), .val (.int ce), .unset, .unset, .unset, .unset] [(.int ((((p2.toUInt32 >>> ((8 : Int32) &&& 31).toUInt32).toInt32) &&& (255 : Int32)).toUInt32.toUInt16.toUInt32.toInt32))]))
  obtain ⟨cf, hcf, ecf⟩ := own_ch255 ((p2.toUInt32 >>> ((8 : Int32) &&& 31).toUInt32).toInt32)
  rw [ecf]
  show own_Go _ _ _ _ (T0.setTop (mkF m 78 #[.val (.int p0), .val (.int p1), .val (.int p2), .val (.int (Int32.ofNat n1)), .val (.int ca), .val (.int cb), .val (.int (Int32.ofNat n2)), .val (.int cc), .val (.int cd), .val (.int (Int32.ofNat n3)), .val (.int ce), .unset, .unset, .unset, .unset] [(.int cf)]))
  refine own_go (fun t_ k_ => XS.istore A0.here hx rfl (hb hby at_78) rfl (l' := #[.val (.int p0), .val (.int p1), .val (.int p2), .val (.int (Int32.ofNat n1)), .val (.int ca), .val (.int cb), .val (.int (Int32.ofNat n2)), .val (.int cc), .val (.int cd), .val (.int (Int32.ofNat n3)), .val (.int ce), .val (.int cf), .unset, .unset, .unset]) rfl k_) ?_
  show own_Go _ _ _ _ (T0.setTop (mkF m 80 #[.val (.int p0), .val (.int p1), .val (.int p2), .val (.int (Int32.ofNat n1)), .val (.int ca), .val (.int cb), .val (.int (Int32.ofNat n2)), .val (.int cc), .val (.int cd), .val (.int (Int32.ofNat n3)), .val (.int ce), .val (.int cf), .unset, .unset, .unset] []))
  refine own_newO A0 hx hZ hown (hw _ (List.mem_of_getElem? (i := 0) rfl)) (hw _ (List.mem_of_getElem? (i := 1) rfl)) (hw _ (List.mem_of_getElem? (i := 2) rfl)) rfl (hb hby at_80) (by decide) (by decide) (fun T1 h3 b4 ha_b4 A2 E5 X6 D7 => ?_)
  have g_b4 : n0 ≤ b4 := by rw [ha_b4]; exact Z0
  have sf_b4 : Safe Z consts_1 s.vm h3 b4 := Safe.ext E5 C0.1 (Safe.new (Nat.le_of_eq ha_b4.symm))
  have C8 : CHr Z consts_1 s.vm h0 s.vm h3 := C0.trans (CHr.ext E5 C0.1)
  have Y9 : 0 ≤ h3.size := Nat.le_trans (Nat.zero_le _) E5.1
  have O10 : Old Z n0 h3 := O0.ext E5
  have Z11 : n0 ≤ h3.size := Nat.le_trans Z0 E5.1
  have F12 : Fld Z h3 b4 "com/example/crosstie/crosstie/Failure" "rule" "Ljava/lang/String;" .null := D7 (Or.inr (hw _ (List.mem_of_getElem? (i := 27) rfl))) (ty := (.object "java/lang/String")) (by decide)
  have F13 : Fld Z h3 b4 "com/example/crosstie/crosstie/Failure" "where" "Ljava/lang/String;" .null := D7 (Or.inr (hw _ (List.mem_of_getElem? (i := 29) rfl))) (ty := (.object "java/lang/String")) (by decide)
  have F14 : Fld Z h3 b4 "com/example/crosstie/crosstie/Failure" "explanation" "Ljava/lang/String;" .null := D7 (Or.inr (hw _ (List.mem_of_getElem? (i := 31) rfl))) (ty := (.object "java/lang/String")) (by decide)
  show own_Go _ _ _ _ (T1.setTop (mkF m 83 #[.val (.int p0), .val (.int p1), .val (.int p2), .val (.int (Int32.ofNat n1)), .val (.int ca), .val (.int cb), .val (.int (Int32.ofNat n2)), .val (.int cc), .val (.int cd), .val (.int (Int32.ofNat n3)), .val (.int ce), .val (.int cf), .unset, .unset, .unset] [(.ref b4)]))
  refine own_go (fun t_ k_ => XS.dup A2.here hx rfl (hb hby at_83) rfl rfl k_) ?_
  show own_Go _ _ _ _ (T1.setTop (mkF m 84 #[.val (.int p0), .val (.int p1), .val (.int p2), .val (.int (Int32.ofNat n1)), .val (.int ca), .val (.int cb), .val (.int (Int32.ofNat n2)), .val (.int cc), .val (.int cd), .val (.int (Int32.ofNat n3)), .val (.int ce), .val (.int cf), .unset, .unset, .unset] [(.ref b4), (.ref b4)]))
  refine own_go (fun t_ k_ => XS.iloadN A2.here hx rfl (hb hby at_84) rfl k_) ?_
  show own_Go _ _ _ _ (T1.setTop (mkF m 85 #[.val (.int p0), .val (.int p1), .val (.int p2), .val (.int (Int32.ofNat n1)), .val (.int ca), .val (.int cb), .val (.int (Int32.ofNat n2)), .val (.int cc), .val (.int cd), .val (.int (Int32.ofNat n3)), .val (.int ce), .val (.int cf), .unset, .unset, .unset] [(.int (Int32.ofNat n1)), (.ref b4), (.ref b4)]))
  refine own_go (fun t_ k_ => XS.iload A2.here hx rfl (hb hby at_85) rfl k_) ?_
  show own_Go _ _ _ _ (T1.setTop (mkF m 87 #[.val (.int p0), .val (.int p1), .val (.int p2), .val (.int (Int32.ofNat n1)), .val (.int ca), .val (.int cb), .val (.int (Int32.ofNat n2)), .val (.int cc), .val (.int cd), .val (.int (Int32.ofNat n3)), .val (.int ce), .val (.int cf), .unset, .unset, .unset] [(.int ca), (.int (Int32.ofNat n1)), (.ref b4), (.ref b4)]))
  refine own_go (fun t_ k_ => XS.iload A2.here hx rfl (hb hby at_87) rfl k_) ?_
  show own_Go _ _ _ _ (T1.setTop (mkF m 89 #[.val (.int p0), .val (.int p1), .val (.int p2), .val (.int (Int32.ofNat n1)), .val (.int ca), .val (.int cb), .val (.int (Int32.ofNat n2)), .val (.int cc), .val (.int cd), .val (.int (Int32.ofNat n3)), .val (.int ce), .val (.int cf), .unset, .unset, .unset] [(.int cb), (.int ca), (.int (Int32.ofNat n1)), (.ref b4), (.ref b4)]))
  refine own_callSC A2 hx hZ hown (y := (⟨"com/example/crosstie/crosstie/FailureLinePinLaw", "mk", "(ICC)Ljava/lang/String;"⟩ : MethodName)) (hw _ (List.mem_of_getElem? (i := 3) rfl)) (hw _ (List.mem_of_getElem? (i := 4) rfl)) (hw _ (List.mem_of_getElem? (i := 5) rfl)) (hw _ (List.mem_of_getElem? (i := 6) rfl)) (by decide) hEL C8 hS Y9 (argsL := [(.int (Int32.ofNat n1)), (.int ca), (.int cb)]) (rest := [(.ref b4), (.ref b4)]) (rm1 l Z a0 hw ca cb n1 z_C h3 n0 O10 Z11 hz S_COMPACT_STRINGS hn1 hca hcb) 2 (by decide) (by decide) rfl (by rw [hml]; rfl) (lenOf pd__ICC_Ljava_lang_String_ rfl) rfl (by show 2 * 0 + _ ≤ _; exact Nat.le_of_eq rfl) (hb hby at_89) (by decide) (by decide) (fun v18 T15 h17 vm20 k21 A16 hQ19 R22 hS23 hk24 hZ hown => ?_)
  obtain ⟨K25, s26, t27, fq28, rfl, E29, F30, F31, V32, P33, Y34⟩ := hQ19
  have C35 : CHr Z consts_1 s.vm h0 vm20 h17 := C8.trans R22
  have O36 : Old Z n0 h17 := O10.keep K25 all0
  have Z37 : n0 ≤ h17.size := Nat.le_trans Z11 K25.1
  have sf38 : Safe Z consts_1 vm20 h17 b4 := R22.safe X6.lt sf_b4
  have E39 : Exa Z h17 b4 "com/example/crosstie/crosstie/Failure" := X6.keep K25
  have F40 : Fld Z h17 b4 "com/example/crosstie/crosstie/Failure" "rule" "Ljava/lang/String;" .null := F12.keep K25 nin0
  have F41 : Fld Z h17 b4 "com/example/crosstie/crosstie/Failure" "where" "Ljava/lang/String;" .null := F13.keep K25 nin0
  have F42 : Fld Z h17 b4 "com/example/crosstie/crosstie/Failure" "explanation" "Ljava/lang/String;" .null := F14.keep K25 nin0
  have ne_s26_b4 : s26 ≠ b4 := Exa.ne E29 E39 (by decide)
  have ne_t27_b4 : t27 ≠ b4 := own_neE V32 (by rw [own_mkn_len _ hn1]; omega) Y34 E39 (hw _ (List.mem_of_getElem? (i := 1) rfl))
  show own_Go _ _ _ _ (T15.setTop (mkF m 92 #[.val (.int p0), .val (.int p1), .val (.int p2), .val (.int (Int32.ofNat n1)), .val (.int ca), .val (.int cb), .val (.int (Int32.ofNat n2)), .val (.int cc), .val (.int cd), .val (.int (Int32.ofNat n3)), .val (.int ce), .val (.int cf), .unset, .unset, .unset] [(.ref s26), (.ref b4), (.ref b4)]))
  refine own_go (fun t_ k_ => XS.iload A16.here hx rfl (hb hby at_92) rfl k_) ?_
  show own_Go _ _ _ _ (T15.setTop (mkF m 94 #[.val (.int p0), .val (.int p1), .val (.int p2), .val (.int (Int32.ofNat n1)), .val (.int ca), .val (.int cb), .val (.int (Int32.ofNat n2)), .val (.int cc), .val (.int cd), .val (.int (Int32.ofNat n3)), .val (.int ce), .val (.int cf), .unset, .unset, .unset] [(.int (Int32.ofNat n2)), (.ref s26), (.ref b4), (.ref b4)]))
  refine own_go (fun t_ k_ => XS.iload A16.here hx rfl (hb hby at_94) rfl k_) ?_
  show own_Go _ _ _ _ (T15.setTop (mkF m 96 #[.val (.int p0), .val (.int p1), .val (.int p2), .val (.int (Int32.ofNat n1)), .val (.int ca), .val (.int cb), .val (.int (Int32.ofNat n2)), .val (.int cc), .val (.int cd), .val (.int (Int32.ofNat n3)), .val (.int ce), .val (.int cf), .unset, .unset, .unset] [(.int cc), (.int (Int32.ofNat n2)), (.ref s26), (.ref b4), (.ref b4)]))
  refine own_go (fun t_ k_ => XS.iload A16.here hx rfl (hb hby at_96) rfl k_) ?_
  show own_Go _ _ _ _ (T15.setTop (mkF m 98 #[.val (.int p0), .val (.int p1), .val (.int p2), .val (.int (Int32.ofNat n1)), .val (.int ca), .val (.int cb), .val (.int (Int32.ofNat n2)), .val (.int cc), .val (.int cd), .val (.int (Int32.ofNat n3)), .val (.int ce), .val (.int cf), .unset, .unset, .unset] [(.int cd), (.int cc), (.int (Int32.ofNat n2)), (.ref s26), (.ref b4), (.ref b4)]))
  refine own_callSC A16 hx hZ hown (y := (⟨"com/example/crosstie/crosstie/FailureLinePinLaw", "mk", "(ICC)Ljava/lang/String;"⟩ : MethodName)) (hw _ (List.mem_of_getElem? (i := 3) rfl)) (hw _ (List.mem_of_getElem? (i := 4) rfl)) (hw _ (List.mem_of_getElem? (i := 5) rfl)) (hw _ (List.mem_of_getElem? (i := 6) rfl)) (by decide) hEL C35 hS23 hk24 (argsL := [(.int (Int32.ofNat n2)), (.int cc), (.int cd)]) (rest := [(.ref s26), (.ref b4), (.ref b4)]) (rm1 l Z a0 hw cc cd n2 z_C h17 n0 O36 Z37 hz S_COMPACT_STRINGS hn2 hcc hcd) 3 (by decide) (by decide) rfl (by rw [hml]; rfl) (lenOf pd__ICC_Ljava_lang_String_ rfl) rfl (by show 2 * 0 + _ ≤ _; exact Nat.le_of_eq rfl) (hb hby at_98) (by decide) (by decide) (fun v46 T43 h45 vm48 k49 A44 hQ47 R50 hS51 hk52 hZ hown => ?_)
  obtain ⟨K53, s54, t55, fq56, rfl, E57, F58, F59, V60, P61, Y62⟩ := hQ47
  have C63 : CHr Z consts_1 s.vm h0 vm48 h45 := C35.trans R50
  have O64 : Old Z n0 h45 := O36.keep K53 all0
  have Z65 : n0 ≤ h45.size := Nat.le_trans Z37 K53.1
  have sf66 : Safe Z consts_1 vm48 h45 b4 := R50.safe E39.lt sf38
  have E67 : Exa Z h45 b4 "com/example/crosstie/crosstie/Failure" := E39.keep K53
  have F68 : Fld Z h45 b4 "com/example/crosstie/crosstie/Failure" "rule" "Ljava/lang/String;" .null := F40.keep K53 nin0
  have F69 : Fld Z h45 b4 "com/example/crosstie/crosstie/Failure" "where" "Ljava/lang/String;" .null := F41.keep K53 nin0
  have F70 : Fld Z h45 b4 "com/example/crosstie/crosstie/Failure" "explanation" "Ljava/lang/String;" .null := F42.keep K53 nin0
  have E71 : Exa Z h45 s26 "java/lang/String" := E29.keep K53
  have F72 : Fld Z h45 s26 "java/lang/String" "coder" "B" (.int (0 : Int32)) := F30.keep K53 nin0
  have F73 : Fld Z h45 s26 "java/lang/String" "value" "[B" (.ref t27) := F31.keep K53 nin0
  have V74 : own_Arr Z h45 t27 .byte (Int32.ofNat (own_mkn n1 ca cb).length) fq28 := V32.keep K53 nin0
  have ne_s54_b4 : s54 ≠ b4 := Exa.ne E57 E67 (by decide)
  have ne_t55_b4 : t55 ≠ b4 := own_neE V60 (by rw [own_mkn_len _ hn2]; omega) Y62 E67 (hw _ (List.mem_of_getElem? (i := 1) rfl))
  show own_Go _ _ _ _ (T43.setTop (mkF m 101 #[.val (.int p0), .val (.int p1), .val (.int p2), .val (.int (Int32.ofNat n1)), .val (.int ca), .val (.int cb), .val (.int (Int32.ofNat n2)), .val (.int cc), .val (.int cd), .val (.int (Int32.ofNat n3)), .val (.int ce), .val (.int cf), .unset, .unset, .unset] [(.ref s54), (.ref s26), (.ref b4), (.ref b4)]))
  refine own_go (fun t_ k_ => XS.iload A44.here hx rfl (hb hby at_101) rfl k_) ?_
  show own_Go _ _ _ _ (T43.setTop (mkF m 103 #[.val (.int p0), .val (.int p1), .val (.int p2), .val (.int (Int32.ofNat n1)), .val (.int ca), .val (.int cb), .val (.int (Int32.ofNat n2)), .val (.int cc), .val (.int cd), .val (.int (Int32.ofNat n3)), .val (.int ce), .val (.int cf), .unset, .unset, .unset] [(.int (Int32.ofNat n3)), (.ref s54), (.ref s26), (.ref b4), (.ref b4)]))
  refine own_go (fun t_ k_ => XS.iload A44.here hx rfl (hb hby at_103) rfl k_) ?_
  show own_Go _ _ _ _ (T43.setTop (mkF m 105 #[.val (.int p0), .val (.int p1), .val (.int p2), .val (.int (Int32.ofNat n1)), .val (.int ca), .val (.int cb), .val (.int (Int32.ofNat n2)), .val (.int cc), .val (.int cd), .val (.int (Int32.ofNat n3)), .val (.int ce), .val (.int cf), .unset, .unset, .unset] [(.int ce), (.int (Int32.ofNat n3)), (.ref s54), (.ref s26), (.ref b4), (.ref b4)]))
  refine own_go (fun t_ k_ => XS.iload A44.here hx rfl (hb hby at_105) rfl k_) ?_
  show own_Go _ _ _ _ (T43.setTop (mkF m 107 #[.val (.int p0), .val (.int p1), .val (.int p2), .val (.int (Int32.ofNat n1)), .val (.int ca), .val (.int cb), .val (.int (Int32.ofNat n2)), .val (.int cc), .val (.int cd), .val (.int (Int32.ofNat n3)), .val (.int ce), .val (.int cf), .unset, .unset, .unset] [(.int cf), (.int ce), (.int (Int32.ofNat n3)), (.ref s54), (.ref s26), (.ref b4), (.ref b4)]))
  refine own_callSC A44 hx hZ hown (y := (⟨"com/example/crosstie/crosstie/FailureLinePinLaw", "mk", "(ICC)Ljava/lang/String;"⟩ : MethodName)) (hw _ (List.mem_of_getElem? (i := 3) rfl)) (hw _ (List.mem_of_getElem? (i := 4) rfl)) (hw _ (List.mem_of_getElem? (i := 5) rfl)) (hw _ (List.mem_of_getElem? (i := 6) rfl)) (by decide) hEL C63 hS51 hk52 (argsL := [(.int (Int32.ofNat n3)), (.int ce), (.int cf)]) (rest := [(.ref s54), (.ref s26), (.ref b4), (.ref b4)]) (rm1 l Z a0 hw ce cf n3 z_C h45 n0 O64 Z65 hz S_COMPACT_STRINGS hn3 hce hcf) 4 (by decide) (by decide) rfl (by rw [hml]; rfl) (lenOf pd__ICC_Ljava_lang_String_ rfl) rfl (by show 2 * 0 + _ ≤ _; exact Nat.le_of_eq rfl) (hb hby at_107) (by decide) (by decide) (fun v78 T75 h77 vm80 k81 A76 hQ79 R82 hS83 hk84 hZ hown => ?_)
  obtain ⟨K85, s86, t87, fq88, rfl, E89, F90, F91, V92, P93, Y94⟩ := hQ79
  have C95 : CHr Z consts_1 s.vm h0 vm80 h77 := C63.trans R82
  have O96 : Old Z n0 h77 := O64.keep K85 all0
  have Z97 : n0 ≤ h77.size := Nat.le_trans Z65 K85.1
  have sf98 : Safe Z consts_1 vm80 h77 b4 := R82.safe E67.lt sf66
  have E99 : Exa Z h77 b4 "com/example/crosstie/crosstie/Failure" := E67.keep K85
  have F100 : Fld Z h77 b4 "com/example/crosstie/crosstie/Failure" "rule" "Ljava/lang/String;" .null := F68.keep K85 nin0
  have F101 : Fld Z h77 b4 "com/example/crosstie/crosstie/Failure" "where" "Ljava/lang/String;" .null := F69.keep K85 nin0
  have F102 : Fld Z h77 b4 "com/example/crosstie/crosstie/Failure" "explanation" "Ljava/lang/String;" .null := F70.keep K85 nin0
  have E103 : Exa Z h77 s26 "java/lang/String" := E71.keep K85
  have F104 : Fld Z h77 s26 "java/lang/String" "coder" "B" (.int (0 : Int32)) := F72.keep K85 nin0
  have F105 : Fld Z h77 s26 "java/lang/String" "value" "[B" (.ref t27) := F73.keep K85 nin0
  have V106 : own_Arr Z h77 t27 .byte (Int32.ofNat (own_mkn n1 ca cb).length) fq28 := V74.keep K85 nin0
  have E107 : Exa Z h77 s54 "java/lang/String" := E57.keep K85
  have F108 : Fld Z h77 s54 "java/lang/String" "coder" "B" (.int (0 : Int32)) := F58.keep K85 nin0
  have F109 : Fld Z h77 s54 "java/lang/String" "value" "[B" (.ref t55) := F59.keep K85 nin0
  have V110 : own_Arr Z h77 t55 .byte (Int32.ofNat (own_mkn n2 cc cd).length) fq56 := V60.keep K85 nin0
  have ne_s86_b4 : s86 ≠ b4 := Exa.ne E89 E99 (by decide)
  have ne_t87_b4 : t87 ≠ b4 := own_neE V92 (by rw [own_mkn_len _ hn3]; omega) Y94 E99 (hw _ (List.mem_of_getElem? (i := 1) rfl))
  show own_Go _ _ _ _ (T75.setTop (mkF m 110 #[.val (.int p0), .val (.int p1), .val (.int p2), .val (.int (Int32.ofNat n1)), .val (.int ca), .val (.int cb), .val (.int (Int32.ofNat n2)), .val (.int cc), .val (.int cd), .val (.int (Int32.ofNat n3)), .val (.int ce), .val (.int cf), .unset, .unset, .unset] [(.ref s86), (.ref s54), (.ref s26), (.ref b4), (.ref b4)]))
  refine own_callI A76 hx hZ (y := (⟨"com/example/crosstie/crosstie/Failure", "<init>", "(Ljava/lang/String;Ljava/lang/String;Ljava/lang/String;)V"⟩ : MethodName)) rfl hown (hw _ (List.mem_of_getElem? (i := 15) rfl)) (hw _ (List.mem_of_getElem? (i := 16) rfl)) (hw _ (List.mem_of_getElem? (i := 2) rfl)) (hw _ (List.mem_of_getElem? (i := 17) rfl)) (by decide) (b := b4) (argsL := [(.ref s26), (.ref s54), (.ref s86)]) (rest := [(.ref b4)]) (rm2 l Z a0 hw b4 s26 s54 s86 h77 n0 E99 F100 F101 F102 g_b4) 1 (by decide) (by decide) rfl (by rw [hml]; rfl) (lenOf pd__Ljava_lang_String_Ljava_lang_String_Ljava_lang_String__V rfl) rfl (by show 2 * 0 + _ ≤ _; exact Nat.le_of_eq rfl) (hb hby at_110) (by decide) (by decide) (fun v114 T111 h113 A112 hQ115 => ?_)
  obtain ⟨rfl, K116, F117, F118, F119⟩ := hQ115
  have C120 : CHr Z consts_1 s.vm h0 vm80 h113 := C95.trans (CHr.keep K116 (sfS sf98 sf0) C95.1)
  have O121 : Old Z n0 h113 := O96.keep K116 (allS g_b4 all0)
  have Z122 : n0 ≤ h113.size := Nat.le_trans Z97 K116.1
  have sf123 : Safe Z consts_1 vm80 h113 b4 := Safe.keep K116 (sfS sf98 sf0) C95.1 sf98
  have E124 : Exa Z h113 b4 "com/example/crosstie/crosstie/Failure" := E99.keep K116
  have E125 : Exa Z h113 s26 "java/lang/String" := E103.keep K116
  have F126 : Fld Z h113 s26 "java/lang/String" "coder" "B" (.int (0 : Int32)) := F104.keep K116 (ninS ne_s26_b4 nin0)
  have F127 : Fld Z h113 s26 "java/lang/String" "value" "[B" (.ref t27) := F105.keep K116 (ninS ne_s26_b4 nin0)
  have V128 : own_Arr Z h113 t27 .byte (Int32.ofNat (own_mkn n1 ca cb).length) fq28 := V106.keep K116 (ninS ne_t27_b4 nin0)
  have E129 : Exa Z h113 s54 "java/lang/String" := E107.keep K116
  have F130 : Fld Z h113 s54 "java/lang/String" "coder" "B" (.int (0 : Int32)) := F108.keep K116 (ninS ne_s54_b4 nin0)
  have F131 : Fld Z h113 s54 "java/lang/String" "value" "[B" (.ref t55) := F109.keep K116 (ninS ne_s54_b4 nin0)
  have V132 : own_Arr Z h113 t55 .byte (Int32.ofNat (own_mkn n2 cc cd).length) fq56 := V110.keep K116 (ninS ne_t55_b4 nin0)
  have E133 : Exa Z h113 s86 "java/lang/String" := E89.keep K116
  have F134 : Fld Z h113 s86 "java/lang/String" "coder" "B" (.int (0 : Int32)) := F90.keep K116 (ninS ne_s86_b4 nin0)
  have F135 : Fld Z h113 s86 "java/lang/String" "value" "[B" (.ref t87) := F91.keep K116 (ninS ne_s86_b4 nin0)
  have V136 : own_Arr Z h113 t87 .byte (Int32.ofNat (own_mkn n3 ce cf).length) fq88 := V92.keep K116 (ninS ne_t87_b4 nin0)
  have Y137 : k81 ≤ h113.size := Nat.le_trans hk84 K116.1
  show own_Go _ _ _ _ (T111.setTop (mkF m 113 #[.val (.int p0), .val (.int p1), .val (.int p2), .val (.int (Int32.ofNat n1)), .val (.int ca), .val (.int cb), .val (.int (Int32.ofNat n2)), .val (.int cc), .val (.int cd), .val (.int (Int32.ofNat n3)), .val (.int ce), .val (.int cf), .unset, .unset, .unset] [(.ref b4)]))
  refine own_go (fun t_ k_ => XS.astore A112.here hx rfl (hb hby at_113) rfl rfl (l' := #[.val (.int p0), .val (.int p1), .val (.int p2), .val (.int (Int32.ofNat n1)), .val (.int ca), .val (.int cb), .val (.int (Int32.ofNat n2)), .val (.int cc), .val (.int cd), .val (.int (Int32.ofNat n3)), .val (.int ce), .val (.int cf), .val (.ref b4), .unset, .unset]) rfl k_) ?_
  show own_Go _ _ _ _ (T111.setTop (mkF m 115 #[.val (.int p0), .val (.int p1), .val (.int p2), .val (.int (Int32.ofNat n1)), .val (.int ca), .val (.int cb), .val (.int (Int32.ofNat n2)), .val (.int cc), .val (.int cd), .val (.int (Int32.ofNat n3)), .val (.int ce), .val (.int cf), .val (.ref b4), .unset, .unset] []))
  refine own_go (fun t_ k_ => XS.aload A112.here hx rfl (hb hby at_115) rfl rfl k_) ?_
  show own_Go _ _ _ _ (T111.setTop (mkF m 117 #[.val (.int p0), .val (.int p1), .val (.int p2), .val (.int (Int32.ofNat n1)), .val (.int ca), .val (.int cb), .val (.int (Int32.ofNat n2)), .val (.int cc), .val (.int cd), .val (.int (Int32.ofNat n3)), .val (.int ce), .val (.int cf), .val (.ref b4), .unset, .unset] [(.ref b4)]))
  refine own_callVC A112 hx hZ (y := (⟨"com/example/crosstie/crosstie/Failure", "line", "()Ljava/lang/String;"⟩ : MethodName)) (z := (⟨"com/example/crosstie/crosstie/Failure", "line", "()Ljava/lang/String;"⟩ : MethodName)) hown (hw _ (List.mem_of_getElem? (i := 32) rfl)) (hw _ (List.mem_of_getElem? (i := 33) rfl)) (hw _ (List.mem_of_getElem? (i := 35) rfl)) (hw _ (List.mem_of_getElem? (i := 34) rfl)) (hw _ (List.mem_of_getElem? (i := 2) rfl)) (hw _ (List.mem_of_getElem? (i := 36) rfl)) (notFace_of_selects (args := #[]) (mvT hZ (hw _ (List.mem_of_getElem? (i := 35) rfl)))) (by decide) hEL C120 hS83 Y137 (b := b4) (argsL := []) (rest := []) E124 (rm5 l Z a0 hw b4 z_C s26 t27 fq28 (own_mkn n1 ca cb) s54 t55 fq56 (own_mkn n2 cc cd) s86 t87 fq88 (own_mkn n3 ce cf) h113 n0 O121 Z122 hz S_COMPACT_STRINGS E124 F117 E125 F126 F127 V128 P33 Y34 (by rw [own_mkn_len _ hn1]; omega) F118 E129 F130 F131 V132 P61 Y62 (by rw [own_mkn_len _ hn2]; omega) F119 E133 F134 F135 V136 P93 Y94 (by rw [own_mkn_len _ hn3]; omega)) 0 (by decide) (by decide) rfl (by rw [hml]; rfl) (lenOf pd___Ljava_lang_String_ rfl) rfl (by show 2 * 0 + _ ≤ _; exact Nat.le_of_eq rfl) (hb hby at_117) (by decide) (by decide) (fun v141 T138 h140 vm143 k144 A139 hQ142 R145 hS146 hk147 hZ hown => ?_)
  obtain ⟨K148, s149, t150, fq151, rfl, E152, F153, F154, V155, P156⟩ := hQ142
  have C157 : CHr Z consts_1 s.vm h0 vm143 h140 := C120.trans R145
  have O158 : Old Z n0 h140 := O121.keep K148 all0
  have Z159 : n0 ≤ h140.size := Nat.le_trans Z122 K148.1
  have sf160 : Safe Z consts_1 vm143 h140 b4 := R145.safe E124.lt sf123
  have E161 : Exa Z h140 b4 "com/example/crosstie/crosstie/Failure" := E124.keep K148
  have E162 : Exa Z h140 s26 "java/lang/String" := E125.keep K148
  have F163 : Fld Z h140 s26 "java/lang/String" "coder" "B" (.int (0 : Int32)) := F126.keep K148 nin0
  have F164 : Fld Z h140 s26 "java/lang/String" "value" "[B" (.ref t27) := F127.keep K148 nin0
  have V165 : own_Arr Z h140 t27 .byte (Int32.ofNat (own_mkn n1 ca cb).length) fq28 := V128.keep K148 nin0
  have E166 : Exa Z h140 s54 "java/lang/String" := E129.keep K148
  have F167 : Fld Z h140 s54 "java/lang/String" "coder" "B" (.int (0 : Int32)) := F130.keep K148 nin0
  have F168 : Fld Z h140 s54 "java/lang/String" "value" "[B" (.ref t55) := F131.keep K148 nin0
  have V169 : own_Arr Z h140 t55 .byte (Int32.ofNat (own_mkn n2 cc cd).length) fq56 := V132.keep K148 nin0
  have E170 : Exa Z h140 s86 "java/lang/String" := E133.keep K148
  have F171 : Fld Z h140 s86 "java/lang/String" "coder" "B" (.int (0 : Int32)) := F134.keep K148 nin0
  have F172 : Fld Z h140 s86 "java/lang/String" "value" "[B" (.ref t87) := F135.keep K148 nin0
  have V173 : own_Arr Z h140 t87 .byte (Int32.ofNat (own_mkn n3 ce cf).length) fq88 := V136.keep K148 nin0
  have F174 : Fld Z h140 b4 "com/example/crosstie/crosstie/Failure" "rule" "Ljava/lang/String;" (.ref s26) := F117.keep K148 nin0
  have F175 : Fld Z h140 b4 "com/example/crosstie/crosstie/Failure" "where" "Ljava/lang/String;" (.ref s54) := F118.keep K148 nin0
  have F176 : Fld Z h140 b4 "com/example/crosstie/crosstie/Failure" "explanation" "Ljava/lang/String;" (.ref s86) := F119.keep K148 nin0
  show own_Go _ _ _ _ (T138.setTop (mkF m 120 #[.val (.int p0), .val (.int p1), .val (.int p2), .val (.int (Int32.ofNat n1)), .val (.int ca), .val (.int cb), .val (.int (Int32.ofNat n2)), .val (.int cc), .val (.int cd), .val (.int (Int32.ofNat n3)), .val (.int ce), .val (.int cf), .val (.ref b4), .unset, .unset] [(.ref s149)]))
  refine own_go (fun t_ k_ => XS.astore A139.here hx rfl (hb hby at_120) rfl rfl (l' := #[.val (.int p0), .val (.int p1), .val (.int p2), .val (.int (Int32.ofNat n1)), .val (.int ca), .val (.int cb), .val (.int (Int32.ofNat n2)), .val (.int cc), .val (.int cd), .val (.int (Int32.ofNat n3)), .val (.int ce), .val (.int cf), .val (.ref b4), .val (.ref s149), .unset]) rfl k_) ?_
  show own_Go _ _ _ _ (T138.setTop (mkF m 122 #[.val (.int p0), .val (.int p1), .val (.int p2), .val (.int (Int32.ofNat n1)), .val (.int ca), .val (.int cb), .val (.int (Int32.ofNat n2)), .val (.int cc), .val (.int cd), .val (.int (Int32.ofNat n3)), .val (.int ce), .val (.int cf), .val (.ref b4), .val (.ref s149), .unset] []))
  refine own_go (fun t_ k_ => XS.aload A139.here hx rfl (hb hby at_122) rfl rfl k_) ?_
  show own_Go _ _ _ _ (T138.setTop (mkF m 124 #[.val (.int p0), .val (.int p1), .val (.int p2), .val (.int (Int32.ofNat n1)), .val (.int ca), .val (.int cb), .val (.int (Int32.ofNat n2)), .val (.int cc), .val (.int cd), .val (.int (Int32.ofNat n3)), .val (.int ce), .val (.int cf), .val (.ref b4), .val (.ref s149), .unset] [(.ref s149)]))
  refine own_go (fun t_ k_ => XS.ifnonnullYes A139.here hx rfl (pc0 := 124) (pc' := 129) rfl (hb hby at_124) rfl (by decide) (by decide) k_) ?_
  show own_Go _ _ _ _ (T138.setTop (mkF m 129 #[.val (.int p0), .val (.int p1), .val (.int p2), .val (.int (Int32.ofNat n1)), .val (.int ca), .val (.int cb), .val (.int (Int32.ofNat n2)), .val (.int cc), .val (.int cd), .val (.int (Int32.ofNat n3)), .val (.int ce), .val (.int cf), .val (.ref b4), .val (.ref s149), .unset] []))
  have ZL := own_zlen n1 n2 n3 hn1 hn2 hn3 ca cb cc cd ce cf
  obtain ⟨g1, g2, g3, g4, g5, g6, g7, g8, g9⟩ := own_get n1 n2 n3 hn1 hn2 hn3 ca cb cc cd ce cf
  refine own_go (fun t_ k_ => XS.aload A139.here hx rfl (hb hby at_129) rfl rfl k_) ?_
  show own_Go _ _ _ _ (T138.setTop (mkF m 131 #[.val (.int p0), .val (.int p1), .val (.int p2), .val (.int (Int32.ofNat n1)), .val (.int ca), .val (.int cb), .val (.int (Int32.ofNat n2)), .val (.int cc), .val (.int cd), .val (.int (Int32.ofNat n3)), .val (.int ce), .val (.int cf), .val (.ref b4), .val (.ref s149), .unset] [(.ref s149)]))
  refine own_callV A139 hx hZ (y := (⟨"java/lang/String", "length", "()I"⟩ : MethodName)) (z := (⟨"java/lang/String", "length", "()I"⟩ : MethodName)) hown (hw _ (List.mem_of_getElem? (i := 154) rfl)) (hw _ (List.mem_of_getElem? (i := 66) rfl)) (hw _ (List.mem_of_getElem? (i := 68) rfl)) (hw _ (List.mem_of_getElem? (i := 67) rfl)) (hw _ (List.mem_of_getElem? (i := 8) rfl)) (hw _ (List.mem_of_getElem? (i := 69) rfl)) (notFace_of_selects (args := #[]) (mvT hZ (hw _ (List.mem_of_getElem? (i := 68) rfl)))) (by decide) (b := s149) (argsL := []) (rest := []) E152 (rm10 l Z a0 hw s149 z_C t150 fq151 (own_zs (own_mkn n1 ca cb) (own_mkn n2 cc cd) (own_mkn n3 ce cf)) h140 n0 (S_COMPACT_STRINGS.ext O158.2) hz E152 F153 F154 V155) 0 (by decide) (by decide) rfl (by rw [hml]; rfl) (lenOf pd___I rfl) rfl (by show 2 * 0 + _ ≤ _; exact Nat.le_of_eq rfl) (hb hby at_131) (by decide) (by decide) (fun v180 T177 h179 A178 hQ181 => ?_)
  obtain ⟨rfl, rfl⟩ := hQ181
  show own_Go _ _ _ _ (T177.setTop (mkF m 134 #[.val (.int p0), .val (.int p1), .val (.int p2), .val (.int (Int32.ofNat n1)), .val (.int ca), .val (.int cb), .val (.int (Int32.ofNat n2)), .val (.int cc), .val (.int cd), .val (.int (Int32.ofNat n3)), .val (.int ce), .val (.int cf), .val (.ref b4), .val (.ref s149), .unset] [(.int (Int32.ofNat (own_zs (own_mkn n1 ca cb) (own_mkn n2 cc cd) (own_mkn n3 ce cf)).length))]))
  refine own_go (fun t_ k_ => XS.iloadN A178.here hx rfl (hb hby at_134) rfl k_) ?_
  show own_Go _ _ _ _ (T177.setTop (mkF m 135 #[.val (.int p0), .val (.int p1), .val (.int p2), .val (.int (Int32.ofNat n1)), .val (.int ca), .val (.int cb), .val (.int (Int32.ofNat n2)), .val (.int cc), .val (.int cd), .val (.int (Int32.ofNat n3)), .val (.int ce), .val (.int cf), .val (.ref b4), .val (.ref s149), .unset] [(.int (Int32.ofNat n1)), (.int (Int32.ofNat (own_zs (own_mkn n1 ca cb) (own_mkn n2 cc cd) (own_mkn n3 ce cf)).length))]))
  refine own_go (fun t_ k_ => XS.iload A178.here hx rfl (hb hby at_135) rfl k_) ?_
  show own_Go _ _ _ _ (T177.setTop (mkF m 137 #[.val (.int p0), .val (.int p1), .val (.int p2), .val (.int (Int32.ofNat n1)), .val (.int ca), .val (.int cb), .val (.int (Int32.ofNat n2)), .val (.int cc), .val (.int cd), .val (.int (Int32.ofNat n3)), .val (.int ce), .val (.int cf), .val (.ref b4), .val (.ref s149), .unset] [(.int (Int32.ofNat n2)), (.int (Int32.ofNat n1)), (.int (Int32.ofNat (own_zs (own_mkn n1 ca cb) (own_mkn n2 cc cd) (own_mkn n3 ce cf)).length))]))
  refine own_go (fun t_ k_ => XS.iadd A178.here hx rfl (hb hby at_137) rfl k_) ?_
  show own_Go _ _ _ _ (T177.setTop (mkF m 138 #[.val (.int p0), .val (.int p1), .val (.int p2), .val (.int (Int32.ofNat n1)), .val (.int ca), .val (.int cb), .val (.int (Int32.ofNat n2)), .val (.int cc), .val (.int cd), .val (.int (Int32.ofNat n3)), .val (.int ce), .val (.int cf), .val (.ref b4), .val (.ref s149), .unset] [(.int ((Int32.ofNat n1) + (Int32.ofNat n2))), (.int (Int32.ofNat (own_zs (own_mkn n1 ca cb) (own_mkn n2 cc cd) (own_mkn n3 ce cf)).length))]))
  refine own_go (fun t_ k_ => XS.iload A178.here hx rfl (hb hby at_138) rfl k_) ?_
  show own_Go _ _ _ _ (T177.setTop (mkF m 140 #[.val (.int p0), .val (.int p1), .val (.int p2), .val (.int (Int32.ofNat n1)), .val (.int ca), .val (.int cb), .val (.int (Int32.ofNat n2)), .val (.int cc), .val (.int cd), .val (.int (Int32.ofNat n3)), .val (.int ce), .val (.int cf), .val (.ref b4), .val (.ref s149), .unset] [(.int (Int32.ofNat n3)), (.int ((Int32.ofNat n1) + (Int32.ofNat n2))), (.int (Int32.ofNat (own_zs (own_mkn n1 ca cb) (own_mkn n2 cc cd) (own_mkn n3 ce cf)).length))]))
  refine own_go (fun t_ k_ => XS.iadd A178.here hx rfl (hb hby at_140) rfl k_) ?_
  show own_Go _ _ _ _ (T177.setTop (mkF m 141 #[.val (.int p0), .val (.int p1), .val (.int p2), .val (.int (Int32.ofNat n1)), .val (.int ca), .val (.int cb), .val (.int (Int32.ofNat n2)), .val (.int cc), .val (.int cd), .val (.int (Int32.ofNat n3)), .val (.int ce), .val (.int cf), .val (.ref b4), .val (.ref s149), .unset] [(.int (((Int32.ofNat n1) + (Int32.ofNat n2)) + (Int32.ofNat n3))), (.int (Int32.ofNat (own_zs (own_mkn n1 ca cb) (own_mkn n2 cc cd) (own_mkn n3 ce cf)).length))]))
  refine own_go (fun t_ k_ => XS.iconst A178.here hx rfl (hb hby at_141) k_) ?_
  show own_Go _ _ _ _ (T177.setTop (mkF m 142 #[.val (.int p0), .val (.int p1), .val (.int p2), .val (.int (Int32.ofNat n1)), .val (.int ca), .val (.int cb), .val (.int (Int32.ofNat n2)), .val (.int cc), .val (.int cd), .val (.int (Int32.ofNat n3)), .val (.int ce), .val (.int cf), .val (.ref b4), .val (.ref s149), .unset] [(.int (3 : Int32)), (.int (((Int32.ofNat n1) + (Int32.ofNat n2)) + (Int32.ofNat n3))), (.int (Int32.ofNat (own_zs (own_mkn n1 ca cb) (own_mkn n2 cc cd) (own_mkn n3 ce cf)).length))]))
  refine own_go (fun t_ k_ => XS.iadd A178.here hx rfl (hb hby at_142) rfl k_) ?_
  show own_Go _ _ _ _ (T177.setTop (mkF m 143 #[.val (.int p0), .val (.int p1), .val (.int p2), .val (.int (Int32.ofNat n1)), .val (.int ca), .val (.int cb), .val (.int (Int32.ofNat n2)), .val (.int cc), .val (.int cd), .val (.int (Int32.ofNat n3)), .val (.int ce), .val (.int cf), .val (.ref b4), .val (.ref s149), .unset] [(.int ((((Int32.ofNat n1) + (Int32.ofNat n2)) + (Int32.ofNat n3)) + (3 : Int32))), (.int (Int32.ofNat (own_zs (own_mkn n1 ca cb) (own_mkn n2 cc cd) (own_mkn n3 ce cf)).length))]))
  have hc182 : (Int32.ofNat (own_zs (own_mkn n1 ca cb) (own_mkn n2 cc cd) (own_mkn n3 ce cf)).length) = ((((Int32.ofNat n1) + (Int32.ofNat n2)) + (Int32.ofNat n3)) + (3 : Int32)) := own_lenlaw n1 n2 n3 hn1 hn2 hn3 ca cb cc cd ce cf
  refine own_go (fun t_ k_ => XS.icmpYes A178.here hx rfl (pc0 := 143) (pc' := 148) rfl (hb hby at_143) rfl (teq hc182).1 (by decide) (by decide) k_) ?_
  show own_Go _ _ _ _ (T177.setTop (mkF m 148 #[.val (.int p0), .val (.int p1), .val (.int p2), .val (.int (Int32.ofNat n1)), .val (.int ca), .val (.int cb), .val (.int (Int32.ofNat n2)), .val (.int cc), .val (.int cd), .val (.int (Int32.ofNat n3)), .val (.int ce), .val (.int cf), .val (.ref b4), .val (.ref s149), .unset] []))
  have PZ := P156
  refine own_go (fun t_ k_ => XS.iconst A178.here hx rfl (hb hby at_148) k_) ?_
  show own_Go _ _ _ _ (T177.setTop (mkF m 149 #[.val (.int p0), .val (.int p1), .val (.int p2), .val (.int (Int32.ofNat n1)), .val (.int ca), .val (.int cb), .val (.int (Int32.ofNat n2)), .val (.int cc), .val (.int cd), .val (.int (Int32.ofNat n3)), .val (.int ce), .val (.int cf), .val (.ref b4), .val (.ref s149), .unset] [(.int (0 : Int32))]))
  refine own_go (fun t_ k_ => XS.istore A178.here hx rfl (hb hby at_149) rfl (l' := #[.val (.int p0), .val (.int p1), .val (.int p2), .val (.int (Int32.ofNat n1)), .val (.int ca), .val (.int cb), .val (.int (Int32.ofNat n2)), .val (.int cc), .val (.int cd), .val (.int (Int32.ofNat n3)), .val (.int ce), .val (.int cf), .val (.ref b4), .val (.ref s149), .val (.int (0 : Int32))]) rfl k_) ?_
  show own_Go _ _ _ _ (T177.setTop (mkF m 151 #[.val (.int p0), .val (.int p1), .val (.int p2), .val (.int (Int32.ofNat n1)), .val (.int ca), .val (.int cb), .val (.int (Int32.ofNat n2)), .val (.int cc), .val (.int cd), .val (.int (Int32.ofNat n3)), .val (.int ce), .val (.int cf), .val (.ref b4), .val (.ref s149), .val (.int (0 : Int32))] []))
  refine own_go (fun t_ k_ => XS.aload A178.here hx rfl (hb hby at_151) rfl rfl k_) ?_
  show own_Go _ _ _ _ (T177.setTop (mkF m 153 #[.val (.int p0), .val (.int p1), .val (.int p2), .val (.int (Int32.ofNat n1)), .val (.int ca), .val (.int cb), .val (.int (Int32.ofNat n2)), .val (.int cc), .val (.int cd), .val (.int (Int32.ofNat n3)), .val (.int ce), .val (.int cf), .val (.ref b4), .val (.ref s149), .val (.int (0 : Int32))] [(.ref s149)]))
  refine own_go (fun t_ k_ => XS.iload A178.here hx rfl (hb hby at_153) rfl k_) ?_
  show own_Go _ _ _ _ (T177.setTop (mkF m 155 #[.val (.int p0), .val (.int p1), .val (.int p2), .val (.int (Int32.ofNat n1)), .val (.int ca), .val (.int cb), .val (.int (Int32.ofNat n2)), .val (.int cc), .val (.int cd), .val (.int (Int32.ofNat n3)), .val (.int ce), .val (.int cf), .val (.ref b4), .val (.ref s149), .val (.int (0 : Int32))] [(.int (0 : Int32)), (.ref s149)]))
  refine own_go (fun t_ k_ => XS.iloadN A178.here hx rfl (hb hby at_155) rfl k_) ?_
  show own_Go _ _ _ _ (T177.setTop (mkF m 156 #[.val (.int p0), .val (.int p1), .val (.int p2), .val (.int (Int32.ofNat n1)), .val (.int ca), .val (.int cb), .val (.int (Int32.ofNat n2)), .val (.int cc), .val (.int cd), .val (.int (Int32.ofNat n3)), .val (.int ce), .val (.int cf), .val (.ref b4), .val (.ref s149), .val (.int (0 : Int32))] [(.int (Int32.ofNat n1)), (.int (0 : Int32)), (.ref s149)]))
  refine own_go (fun t_ k_ => XS.iload A178.here hx rfl (hb hby at_156) rfl k_) ?_
  show own_Go _ _ _ _ (T177.setTop (mkF m 158 #[.val (.int p0), .val (.int p1), .val (.int p2), .val (.int (Int32.ofNat n1)), .val (.int ca), .val (.int cb), .val (.int (Int32.ofNat n2)), .val (.int cc), .val (.int cd), .val (.int (Int32.ofNat n3)), .val (.int ce), .val (.int cf), .val (.ref b4), .val (.ref s149), .val (.int (0 : Int32))] [(.int ca), (.int (Int32.ofNat n1)), (.int (0 : Int32)), (.ref s149)]))
  refine own_go (fun t_ k_ => XS.iload A178.here hx rfl (hb hby at_158) rfl k_) ?_
  show own_Go _ _ _ _ (T177.setTop (mkF m 160 #[.val (.int p0), .val (.int p1), .val (.int p2), .val (.int (Int32.ofNat n1)), .val (.int ca), .val (.int cb), .val (.int (Int32.ofNat n2)), .val (.int cc), .val (.int cd), .val (.int (Int32.ofNat n3)), .val (.int ce), .val (.int cf), .val (.ref b4), .val (.ref s149), .val (.int (0 : Int32))] [(.int cb), (.int ca), (.int (Int32.ofNat n1)), (.int (0 : Int32)), (.ref s149)]))
  refine own_callS A178 hx hZ hown (y := (⟨"com/example/crosstie/crosstie/FailureLinePinLaw", "has", "(Ljava/lang/String;IICC)Z"⟩ : MethodName)) (hw _ (List.mem_of_getElem? (i := 155) rfl)) (hw _ (List.mem_of_getElem? (i := 156) rfl)) (hw _ (List.mem_of_getElem? (i := 5) rfl)) (hw _ (List.mem_of_getElem? (i := 157) rfl)) (by decide) (argsL := [(.ref s149), (.int (0 : Int32)), (.int (Int32.ofNat n1)), (.int ca), (.int cb)]) (rest := []) (rm27 l Z a0 hw s149 (0 : Int32) (Int32.ofNat n1) ca cb t150 fq151 (own_zs (own_mkn n1 ca cb) (own_mkn n2 cc cd) (own_mkn n3 ce cf)).length z_C s_F h140 n0 E152 F153 F154 V155 (S_COMPACT_STRINGS.ext O158.2) hz (S_SIOOBE_FORMATTER.ext O158.2) hr_F (fun z => have q : 0 < n1 := ((own_nlt (i := 0) (by decide) (by omega)).mp z); ⟨own_in (k := 0) (by omega) (by omega), own_at PZ (k := 0) (by omega) (g1 q) (own_back hca)⟩) (fun z => have q : 1 < n1 := ((own_nlt (i := 1) (by decide) (by omega)).mp z); by exact ⟨own_in (k := 1) (by omega) (by omega), own_at PZ (k := 1) (by omega) (g2 q) (own_back hcb)⟩)) 0 (by decide) (by decide) rfl (by rw [hml]; rfl) (lenOf pd__Ljava_lang_String_IICC_Z rfl) rfl (by show 2 * 0 + _ ≤ _; exact Nat.le_of_eq rfl) (hb hby at_160) (by decide) (by decide) (fun v186 T183 h185 A184 hQ187 => ?_)
  obtain ⟨rfl, rfl⟩ := hQ187
  show own_Go _ _ _ _ (T183.setTop (mkF m 163 #[.val (.int p0), .val (.int p1), .val (.int p2), .val (.int (Int32.ofNat n1)), .val (.int ca), .val (.int cb), .val (.int (Int32.ofNat n2)), .val (.int cc), .val (.int cd), .val (.int (Int32.ofNat n3)), .val (.int ce), .val (.int cf), .val (.ref b4), .val (.ref s149), .val (.int (0 : Int32))] [(.int (1 : Int32))]))
  have hc188 : ¬ ((1 : Int32) = (0 : Int32)) := (by decide)
  refine own_go (fun t_ k_ => XS.ifYes A184.here hx rfl (pc0 := 163) (pc' := 168) rfl (hb hby at_163) rfl ((if0 _ _).trans (feq hc188).2) (by decide) (by decide) k_) ?_
  show own_Go _ _ _ _ (T183.setTop (mkF m 168 #[.val (.int p0), .val (.int p1), .val (.int p2), .val (.int (Int32.ofNat n1)), .val (.int ca), .val (.int cb), .val (.int (Int32.ofNat n2)), .val (.int cc), .val (.int cd), .val (.int (Int32.ofNat n3)), .val (.int ce), .val (.int cf), .val (.ref b4), .val (.ref s149), .val (.int (0 : Int32))] []))
  refine own_go (fun t_ k_ => XS.iload A184.here hx rfl (hb hby at_168) rfl k_) ?_
  show own_Go _ _ _ _ (T183.setTop (mkF m 170 #[.val (.int p0), .val (.int p1), .val (.int p2), .val (.int (Int32.ofNat n1)), .val (.int ca), .val (.int cb), .val (.int (Int32.ofNat n2)), .val (.int cc), .val (.int cd), .val (.int (Int32.ofNat n3)), .val (.int ce), .val (.int cf), .val (.ref b4), .val (.ref s149), .val (.int (0 : Int32))] [(.int (0 : Int32))]))
  refine own_go (fun t_ k_ => XS.iloadN A184.here hx rfl (hb hby at_170) rfl k_) ?_
  show own_Go _ _ _ _ (T183.setTop (mkF m 171 #[.val (.int p0), .val (.int p1), .val (.int p2), .val (.int (Int32.ofNat n1)), .val (.int ca), .val (.int cb), .val (.int (Int32.ofNat n2)), .val (.int cc), .val (.int cd), .val (.int (Int32.ofNat n3)), .val (.int ce), .val (.int cf), .val (.ref b4), .val (.ref s149), .val (.int (0 : Int32))] [(.int (Int32.ofNat n1)), (.int (0 : Int32))]))
  refine own_go (fun t_ k_ => XS.iadd A184.here hx rfl (hb hby at_171) rfl k_) ?_
  show own_Go _ _ _ _ (T183.setTop (mkF m 172 #[.val (.int p0), .val (.int p1), .val (.int p2), .val (.int (Int32.ofNat n1)), .val (.int ca), .val (.int cb), .val (.int (Int32.ofNat n2)), .val (.int cc), .val (.int cd), .val (.int (Int32.ofNat n3)), .val (.int ce), .val (.int cf), .val (.ref b4), .val (.ref s149), .val (.int (0 : Int32))] [(.int ((0 : Int32) + (Int32.ofNat n1)))]))
  rw [own_zadd]
  show own_Go _ _ _ _ (T183.setTop (mkF m 172 #[.val (.int p0), .val (.int p1), .val (.int p2), .val (.int (Int32.ofNat n1)), .val (.int ca), .val (.int cb), .val (.int (Int32.ofNat n2)), .val (.int cc), .val (.int cd), .val (.int (Int32.ofNat n3)), .val (.int ce), .val (.int cf), .val (.ref b4), .val (.ref s149), .val (.int (0 : Int32))] [(.int (Int32.ofNat n1))]))
  refine own_go (fun t_ k_ => XS.istore A184.here hx rfl (hb hby at_172) rfl (l' := #[.val (.int p0), .val (.int p1), .val (.int p2), .val (.int (Int32.ofNat n1)), .val (.int ca), .val (.int cb), .val (.int (Int32.ofNat n2)), .val (.int cc), .val (.int cd), .val (.int (Int32.ofNat n3)), .val (.int ce), .val (.int cf), .val (.ref b4), .val (.ref s149), .val (.int (Int32.ofNat n1))]) rfl k_) ?_
  show own_Go _ _ _ _ (T183.setTop (mkF m 174 #[.val (.int p0), .val (.int p1), .val (.int p2), .val (.int (Int32.ofNat n1)), .val (.int ca), .val (.int cb), .val (.int (Int32.ofNat n2)), .val (.int cc), .val (.int cd), .val (.int (Int32.ofNat n3)), .val (.int ce), .val (.int cf), .val (.ref b4), .val (.ref s149), .val (.int (Int32.ofNat n1))] []))
  refine own_go (fun t_ k_ => XS.aload A184.here hx rfl (hb hby at_174) rfl rfl k_) ?_
  show own_Go _ _ _ _ (T183.setTop (mkF m 176 #[.val (.int p0), .val (.int p1), .val (.int p2), .val (.int (Int32.ofNat n1)), .val (.int ca), .val (.int cb), .val (.int (Int32.ofNat n2)), .val (.int cc), .val (.int cd), .val (.int (Int32.ofNat n3)), .val (.int ce), .val (.int cf), .val (.ref b4), .val (.ref s149), .val (.int (Int32.ofNat n1))] [(.ref s149)]))
  refine own_go (fun t_ k_ => XS.iload A184.here hx rfl (hb hby at_176) rfl k_) ?_
  show own_Go _ _ _ _ (T183.setTop (mkF m 178 #[.val (.int p0), .val (.int p1), .val (.int p2), .val (.int (Int32.ofNat n1)), .val (.int ca), .val (.int cb), .val (.int (Int32.ofNat n2)), .val (.int cc), .val (.int cd), .val (.int (Int32.ofNat n3)), .val (.int ce), .val (.int cf), .val (.ref b4), .val (.ref s149), .val (.int (Int32.ofNat n1))] [(.int (Int32.ofNat n1)), (.ref s149)]))
  refine own_callV A184 hx hZ (y := (⟨"java/lang/String", "charAt", "(I)C"⟩ : MethodName)) (z := (⟨"java/lang/String", "charAt", "(I)C"⟩ : MethodName)) hown (hw _ (List.mem_of_getElem? (i := 158) rfl)) (hw _ (List.mem_of_getElem? (i := 159) rfl)) (hw _ (List.mem_of_getElem? (i := 161) rfl)) (hw _ (List.mem_of_getElem? (i := 160) rfl)) (hw _ (List.mem_of_getElem? (i := 8) rfl)) (hw _ (List.mem_of_getElem? (i := 162) rfl)) (notFace_of_selects (args := #[]) (mvT hZ (hw _ (List.mem_of_getElem? (i := 161) rfl)))) (by decide) (b := s149) (argsL := [(.int (Int32.ofNat n1))]) (rest := []) E152 (rm28 l Z a0 hw s149 (Int32.ofNat n1) t150 fq151 z_C s_F (own_zs (own_mkn n1 ca cb) (own_mkn n2 cc cd) (own_mkn n3 ce cf)).length h140 n0 E152 F153 F154 V155 (own_nn (by omega)) ((own_nlt (by omega) (by omega)).mpr (by omega)) (S_COMPACT_STRINGS.ext O158.2) hz (S_SIOOBE_FORMATTER.ext O158.2) hr_F) 0 (by decide) (by decide) rfl (by rw [hml]; rfl) (lenOf pd__I_C rfl) rfl (by show 2 * 0 + _ ≤ _; exact Nat.le_of_eq rfl) (hb hby at_178) (by decide) (by decide) (fun v192 T189 h191 A190 hQ193 => ?_)
  obtain ⟨rfl, rfl⟩ := hQ193
  show own_Go _ _ _ _ (T189.setTop (mkF m 181 #[.val (.int p0), .val (.int p1), .val (.int p2), .val (.int (Int32.ofNat n1)), .val (.int ca), .val (.int cb), .val (.int (Int32.ofNat n2)), .val (.int cc), .val (.int cd), .val (.int (Int32.ofNat n3)), .val (.int ce), .val (.int cf), .val (.ref b4), .val (.ref s149), .val (.int (Int32.ofNat n1))] [(.int (f28 (Int32.ofNat n1) fq151 z_C s_F (own_zs (own_mkn n1 ca cb) (own_mkn n2 cc cd) (own_mkn n3 ce cf)).length))]))
  refine own_go (fun t_ k_ => XS.bipush A190.here hx rfl (hb hby at_181) k_) ?_
  show own_Go _ _ _ _ (T189.setTop (mkF m 183 #[.val (.int p0), .val (.int p1), .val (.int p2), .val (.int (Int32.ofNat n1)), .val (.int ca), .val (.int cb), .val (.int (Int32.ofNat n2)), .val (.int cc), .val (.int cd), .val (.int (Int32.ofNat n3)), .val (.int ce), .val (.int cf), .val (.ref b4), .val (.ref s149), .val (.int (Int32.ofNat n1))] [(.int (32 : Int32)), (.int (f28 (Int32.ofNat n1) fq151 z_C s_F (own_zs (own_mkn n1 ca cb) (own_mkn n2 cc cd) (own_mkn n3 ce cf)).length))]))
  have hc194 : (f28 (Int32.ofNat n1) fq151 z_C s_F (own_zs (own_mkn n1 ca cb) (own_mkn n2 cc cd) (own_mkn n3 ce cf)).length) = (32 : Int32) := own_at PZ (by omega) g3 (by decide)
  refine own_go (fun t_ k_ => XS.icmpYes A190.here hx rfl (pc0 := 183) (pc' := 188) rfl (hb hby at_183) rfl (teq hc194).1 (by decide) (by decide) k_) ?_
  show own_Go _ _ _ _ (T189.setTop (mkF m 188 #[.val (.int p0), .val (.int p1), .val (.int p2), .val (.int (Int32.ofNat n1)), .val (.int ca), .val (.int cb), .val (.int (Int32.ofNat n2)), .val (.int cc), .val (.int cd), .val (.int (Int32.ofNat n3)), .val (.int ce), .val (.int cf), .val (.ref b4), .val (.ref s149), .val (.int (Int32.ofNat n1))] []))
  refine own_go (fun t_ k_ => XS.iload A190.here hx rfl (hb hby at_188) rfl k_) ?_
  show own_Go _ _ _ _ (T189.setTop (mkF m 190 #[.val (.int p0), .val (.int p1), .val (.int p2), .val (.int (Int32.ofNat n1)), .val (.int ca), .val (.int cb), .val (.int (Int32.ofNat n2)), .val (.int cc), .val (.int cd), .val (.int (Int32.ofNat n3)), .val (.int ce), .val (.int cf), .val (.ref b4), .val (.ref s149), .val (.int (Int32.ofNat n1))] [(.int (Int32.ofNat n1))]))
  refine own_go (fun t_ k_ => XS.iconst A190.here hx rfl (hb hby at_190) k_) ?_
  show own_Go _ _ _ _ (T189.setTop (mkF m 191 #[.val (.int p0), .val (.int p1), .val (.int p2), .val (.int (Int32.ofNat n1)), .val (.int ca), .val (.int cb), .val (.int (Int32.ofNat n2)), .val (.int cc), .val (.int cd), .val (.int (Int32.ofNat n3)), .val (.int ce), .val (.int cf), .val (.ref b4), .val (.ref s149), .val (.int (Int32.ofNat n1))] [(.int (1 : Int32)), (.int (Int32.ofNat n1))]))
  refine own_go (fun t_ k_ => XS.iadd A190.here hx rfl (hb hby at_191) rfl k_) ?_
  show own_Go _ _ _ _ (T189.setTop (mkF m 192 #[.val (.int p0), .val (.int p1), .val (.int p2), .val (.int (Int32.ofNat n1)), .val (.int ca), .val (.int cb), .val (.int (Int32.ofNat n2)), .val (.int cc), .val (.int cd), .val (.int (Int32.ofNat n3)), .val (.int ce), .val (.int cf), .val (.ref b4), .val (.ref s149), .val (.int (Int32.ofNat n1))] [(.int ((Int32.ofNat n1) + (1 : Int32)))]))
  rw [own_succ]
  show own_Go _ _ _ _ (T189.setTop (mkF m 192 #[.val (.int p0), .val (.int p1), .val (.int p2), .val (.int (Int32.ofNat n1)), .val (.int ca), .val (.int cb), .val (.int (Int32.ofNat n2)), .val (.int cc), .val (.int cd), .val (.int (Int32.ofNat n3)), .val (.int ce), .val (.int cf), .val (.ref b4), .val (.ref s149), .val (.int (Int32.ofNat n1))] [(.int (Int32.ofNat (n1 + 1)))]))
  refine own_go (fun t_ k_ => XS.istore A190.here hx rfl (hb hby at_192) rfl (l' := #[.val (.int p0), .val (.int p1), .val (.int p2), .val (.int (Int32.ofNat n1)), .val (.int ca), .val (.int cb), .val (.int (Int32.ofNat n2)), .val (.int cc), .val (.int cd), .val (.int (Int32.ofNat n3)), .val (.int ce), .val (.int cf), .val (.ref b4), .val (.ref s149), .val (.int (Int32.ofNat (n1 + 1)))]) rfl k_) ?_
  show own_Go _ _ _ _ (T189.setTop (mkF m 194 #[.val (.int p0), .val (.int p1), .val (.int p2), .val (.int (Int32.ofNat n1)), .val (.int ca), .val (.int cb), .val (.int (Int32.ofNat n2)), .val (.int cc), .val (.int cd), .val (.int (Int32.ofNat n3)), .val (.int ce), .val (.int cf), .val (.ref b4), .val (.ref s149), .val (.int (Int32.ofNat (n1 + 1)))] []))
  refine own_go (fun t_ k_ => XS.aload A190.here hx rfl (hb hby at_194) rfl rfl k_) ?_
  show own_Go _ _ _ _ (T189.setTop (mkF m 196 #[.val (.int p0), .val (.int p1), .val (.int p2), .val (.int (Int32.ofNat n1)), .val (.int ca), .val (.int cb), .val (.int (Int32.ofNat n2)), .val (.int cc), .val (.int cd), .val (.int (Int32.ofNat n3)), .val (.int ce), .val (.int cf), .val (.ref b4), .val (.ref s149), .val (.int (Int32.ofNat (n1 + 1)))] [(.ref s149)]))
  refine own_go (fun t_ k_ => XS.iload A190.here hx rfl (hb hby at_196) rfl k_) ?_
  show own_Go _ _ _ _ (T189.setTop (mkF m 198 #[.val (.int p0), .val (.int p1), .val (.int p2), .val (.int (Int32.ofNat n1)), .val (.int ca), .val (.int cb), .val (.int (Int32.ofNat n2)), .val (.int cc), .val (.int cd), .val (.int (Int32.ofNat n3)), .val (.int ce), .val (.int cf), .val (.ref b4), .val (.ref s149), .val (.int (Int32.ofNat (n1 + 1)))] [(.int (Int32.ofNat (n1 + 1))), (.ref s149)]))
  refine own_go (fun t_ k_ => XS.iload A190.here hx rfl (hb hby at_198) rfl k_) ?_
  show own_Go _ _ _ _ (T189.setTop (mkF m 200 #[.val (.int p0), .val (.int p1), .val (.int p2), .val (.int (Int32.ofNat n1)), .val (.int ca), .val (.int cb), .val (.int (Int32.ofNat n2)), .val (.int cc), .val (.int cd), .val (.int (Int32.ofNat n3)), .val (.int ce), .val (.int cf), .val (.ref b4), .val (.ref s149), .val (.int (Int32.ofNat (n1 + 1)))] [(.int (Int32.ofNat n2)), (.int (Int32.ofNat (n1 + 1))), (.ref s149)]))
  refine own_go (fun t_ k_ => XS.iload A190.here hx rfl (hb hby at_200) rfl k_) ?_
  show own_Go _ _ _ _ (T189.setTop (mkF m 202 #[.val (.int p0), .val (.int p1), .val (.int p2), .val (.int (Int32.ofNat n1)), .val (.int ca), .val (.int cb), .val (.int (Int32.ofNat n2)), .val (.int cc), .val (.int cd), .val (.int (Int32.ofNat n3)), .val (.int ce), .val (.int cf), .val (.ref b4), .val (.ref s149), .val (.int (Int32.ofNat (n1 + 1)))] [(.int cc), (.int (Int32.ofNat n2)), (.int (Int32.ofNat (n1 + 1))), (.ref s149)]))
  refine own_go (fun t_ k_ => XS.iload A190.here hx rfl (hb hby at_202) rfl k_) ?_
  show own_Go _ _ _ _ (T189.setTop (mkF m 204 #[.val (.int p0), .val (.int p1), .val (.int p2), .val (.int (Int32.ofNat n1)), .val (.int ca), .val (.int cb), .val (.int (Int32.ofNat n2)), .val (.int cc), .val (.int cd), .val (.int (Int32.ofNat n3)), .val (.int ce), .val (.int cf), .val (.ref b4), .val (.ref s149), .val (.int (Int32.ofNat (n1 + 1)))] [(.int cd), (.int cc), (.int (Int32.ofNat n2)), (.int (Int32.ofNat (n1 + 1))), (.ref s149)]))
  refine own_callS A190 hx hZ hown (y := (⟨"com/example/crosstie/crosstie/FailureLinePinLaw", "has", "(Ljava/lang/String;IICC)Z"⟩ : MethodName)) (hw _ (List.mem_of_getElem? (i := 155) rfl)) (hw _ (List.mem_of_getElem? (i := 156) rfl)) (hw _ (List.mem_of_getElem? (i := 5) rfl)) (hw _ (List.mem_of_getElem? (i := 157) rfl)) (by decide) (argsL := [(.ref s149), (.int (Int32.ofNat (n1 + 1))), (.int (Int32.ofNat n2)), (.int cc), (.int cd)]) (rest := []) (rm27 l Z a0 hw s149 (Int32.ofNat (n1 + 1)) (Int32.ofNat n2) cc cd t150 fq151 (own_zs (own_mkn n1 ca cb) (own_mkn n2 cc cd) (own_mkn n3 ce cf)).length z_C s_F h140 n0 E152 F153 F154 V155 (S_COMPACT_STRINGS.ext O158.2) hz (S_SIOOBE_FORMATTER.ext O158.2) hr_F (fun z => have q : 0 < n2 := ((own_nlt (i := 0) (by decide) (by omega)).mp z); ⟨own_in (by omega) (by omega), own_at PZ (by omega) (g4 q) (own_back hcc)⟩) (fun z => have q : 1 < n2 := ((own_nlt (i := 1) (by decide) (by omega)).mp z); by rw [own_succ]; exact ⟨own_in (by omega) (by omega), own_at PZ (by omega) (g5 q) (own_back hcd)⟩)) 0 (by decide) (by decide) rfl (by rw [hml]; rfl) (lenOf pd__Ljava_lang_String_IICC_Z rfl) rfl (by show 2 * 0 + _ ≤ _; exact Nat.le_of_eq rfl) (hb hby at_204) (by decide) (by decide) (fun v198 T195 h197 A196 hQ199 => ?_)
  obtain ⟨rfl, rfl⟩ := hQ199
  show own_Go _ _ _ _ (T195.setTop (mkF m 207 #[.val (.int p0), .val (.int p1), .val (.int p2), .val (.int (Int32.ofNat n1)), .val (.int ca), .val (.int cb), .val (.int (Int32.ofNat n2)), .val (.int cc), .val (.int cd), .val (.int (Int32.ofNat n3)), .val (.int ce), .val (.int cf), .val (.ref b4), .val (.ref s149), .val (.int (Int32.ofNat (n1 + 1)))] [(.int (1 : Int32))]))
  have hc200 : ¬ ((1 : Int32) = (0 : Int32)) := (by decide)
  refine own_go (fun t_ k_ => XS.ifYes A196.here hx rfl (pc0 := 207) (pc' := 212) rfl (hb hby at_207) rfl ((if0 _ _).trans (feq hc200).2) (by decide) (by decide) k_) ?_
  show own_Go _ _ _ _ (T195.setTop (mkF m 212 #[.val (.int p0), .val (.int p1), .val (.int p2), .val (.int (Int32.ofNat n1)), .val (.int ca), .val (.int cb), .val (.int (Int32.ofNat n2)), .val (.int cc), .val (.int cd), .val (.int (Int32.ofNat n3)), .val (.int ce), .val (.int cf), .val (.ref b4), .val (.ref s149), .val (.int (Int32.ofNat (n1 + 1)))] []))
  refine own_go (fun t_ k_ => XS.iload A196.here hx rfl (hb hby at_212) rfl k_) ?_
  show own_Go _ _ _ _ (T195.setTop (mkF m 214 #[.val (.int p0), .val (.int p1), .val (.int p2), .val (.int (Int32.ofNat n1)), .val (.int ca), .val (.int cb), .val (.int (Int32.ofNat n2)), .val (.int cc), .val (.int cd), .val (.int (Int32.ofNat n3)), .val (.int ce), .val (.int cf), .val (.ref b4), .val (.ref s149), .val (.int (Int32.ofNat (n1 + 1)))] [(.int (Int32.ofNat (n1 + 1)))]))
  refine own_go (fun t_ k_ => XS.iload A196.here hx rfl (hb hby at_214) rfl k_) ?_
  show own_Go _ _ _ _ (T195.setTop (mkF m 216 #[.val (.int p0), .val (.int p1), .val (.int p2), .val (.int (Int32.ofNat n1)), .val (.int ca), .val (.int cb), .val (.int (Int32.ofNat n2)), .val (.int cc), .val (.int cd), .val (.int (Int32.ofNat n3)), .val (.int ce), .val (.int cf), .val (.ref b4), .val (.ref s149), .val (.int (Int32.ofNat (n1 + 1)))] [(.int (Int32.ofNat n2)), (.int (Int32.ofNat (n1 + 1)))]))
  refine own_go (fun t_ k_ => XS.iadd A196.here hx rfl (hb hby at_216) rfl k_) ?_
  show own_Go _ _ _ _ (T195.setTop (mkF m 217 #[.val (.int p0), .val (.int p1), .val (.int p2), .val (.int (Int32.ofNat n1)), .val (.int ca), .val (.int cb), .val (.int (Int32.ofNat n2)), .val (.int cc), .val (.int cd), .val (.int (Int32.ofNat n3)), .val (.int ce), .val (.int cf), .val (.ref b4), .val (.ref s149), .val (.int (Int32.ofNat (n1 + 1)))] [(.int ((Int32.ofNat (n1 + 1)) + (Int32.ofNat n2)))]))
  rw [own_nadd]
  show own_Go _ _ _ _ (T195.setTop (mkF m 217 #[.val (.int p0), .val (.int p1), .val (.int p2), .val (.int (Int32.ofNat n1)), .val (.int ca), .val (.int cb), .val (.int (Int32.ofNat n2)), .val (.int cc), .val (.int cd), .val (.int (Int32.ofNat n3)), .val (.int ce), .val (.int cf), .val (.ref b4), .val (.ref s149), .val (.int (Int32.ofNat (n1 + 1)))] [(.int (Int32.ofNat (n1 + 1 + n2)))]))
  refine own_go (fun t_ k_ => XS.istore A196.here hx rfl (hb hby at_217) rfl (l' := #[.val (.int p0), .val (.int p1), .val (.int p2), .val (.int (Int32.ofNat n1)), .val (.int ca), .val (.int cb), .val (.int (Int32.ofNat n2)), .val (.int cc), .val (.int cd), .val (.int (Int32.ofNat n3)), .val (.int ce), .val (.int cf), .val (.ref b4), .val (.ref s149), .val (.int (Int32.ofNat (n1 + 1 + n2)))]) rfl k_) ?_
  show own_Go _ _ _ _ (T195.setTop (mkF m 219 #[.val (.int p0), .val (.int p1), .val (.int p2), .val (.int (Int32.ofNat n1)), .val (.int ca), .val (.int cb), .val (.int (Int32.ofNat n2)), .val (.int cc), .val (.int cd), .val (.int (Int32.ofNat n3)), .val (.int ce), .val (.int cf), .val (.ref b4), .val (.ref s149), .val (.int (Int32.ofNat (n1 + 1 + n2)))] []))
  refine own_go (fun t_ k_ => XS.aload A196.here hx rfl (hb hby at_219) rfl rfl k_) ?_
  show own_Go _ _ _ _ (T195.setTop (mkF m 221 #[.val (.int p0), .val (.int p1), .val (.int p2), .val (.int (Int32.ofNat n1)), .val (.int ca), .val (.int cb), .val (.int (Int32.ofNat n2)), .val (.int cc), .val (.int cd), .val (.int (Int32.ofNat n3)), .val (.int ce), .val (.int cf), .val (.ref b4), .val (.ref s149), .val (.int (Int32.ofNat (n1 + 1 + n2)))] [(.ref s149)]))
  refine own_go (fun t_ k_ => XS.iload A196.here hx rfl (hb hby at_221) rfl k_) ?_
  show own_Go _ _ _ _ (T195.setTop (mkF m 223 #[.val (.int p0), .val (.int p1), .val (.int p2), .val (.int (Int32.ofNat n1)), .val (.int ca), .val (.int cb), .val (.int (Int32.ofNat n2)), .val (.int cc), .val (.int cd), .val (.int (Int32.ofNat n3)), .val (.int ce), .val (.int cf), .val (.ref b4), .val (.ref s149), .val (.int (Int32.ofNat (n1 + 1 + n2)))] [(.int (Int32.ofNat (n1 + 1 + n2))), (.ref s149)]))
  refine own_callV A196 hx hZ (y := (⟨"java/lang/String", "charAt", "(I)C"⟩ : MethodName)) (z := (⟨"java/lang/String", "charAt", "(I)C"⟩ : MethodName)) hown (hw _ (List.mem_of_getElem? (i := 158) rfl)) (hw _ (List.mem_of_getElem? (i := 159) rfl)) (hw _ (List.mem_of_getElem? (i := 161) rfl)) (hw _ (List.mem_of_getElem? (i := 160) rfl)) (hw _ (List.mem_of_getElem? (i := 8) rfl)) (hw _ (List.mem_of_getElem? (i := 162) rfl)) (notFace_of_selects (args := #[]) (mvT hZ (hw _ (List.mem_of_getElem? (i := 161) rfl)))) (by decide) (b := s149) (argsL := [(.int (Int32.ofNat (n1 + 1 + n2)))]) (rest := []) E152 (rm28 l Z a0 hw s149 (Int32.ofNat (n1 + 1 + n2)) t150 fq151 z_C s_F (own_zs (own_mkn n1 ca cb) (own_mkn n2 cc cd) (own_mkn n3 ce cf)).length h140 n0 E152 F153 F154 V155 (own_nn (by omega)) ((own_nlt (by omega) (by omega)).mpr (by omega)) (S_COMPACT_STRINGS.ext O158.2) hz (S_SIOOBE_FORMATTER.ext O158.2) hr_F) 0 (by decide) (by decide) rfl (by rw [hml]; rfl) (lenOf pd__I_C rfl) rfl (by show 2 * 0 + _ ≤ _; exact Nat.le_of_eq rfl) (hb hby at_223) (by decide) (by decide) (fun v204 T201 h203 A202 hQ205 => ?_)
  obtain ⟨rfl, rfl⟩ := hQ205
  show own_Go _ _ _ _ (T201.setTop (mkF m 226 #[.val (.int p0), .val (.int p1), .val (.int p2), .val (.int (Int32.ofNat n1)), .val (.int ca), .val (.int cb), .val (.int (Int32.ofNat n2)), .val (.int cc), .val (.int cd), .val (.int (Int32.ofNat n3)), .val (.int ce), .val (.int cf), .val (.ref b4), .val (.ref s149), .val (.int (Int32.ofNat (n1 + 1 + n2)))] [(.int (f28 (Int32.ofNat (n1 + 1 + n2)) fq151 z_C s_F (own_zs (own_mkn n1 ca cb) (own_mkn n2 cc cd) (own_mkn n3 ce cf)).length))]))
  refine own_go (fun t_ k_ => XS.bipush A202.here hx rfl (hb hby at_226) k_) ?_
  show own_Go _ _ _ _ (T201.setTop (mkF m 228 #[.val (.int p0), .val (.int p1), .val (.int p2), .val (.int (Int32.ofNat n1)), .val (.int ca), .val (.int cb), .val (.int (Int32.ofNat n2)), .val (.int cc), .val (.int cd), .val (.int (Int32.ofNat n3)), .val (.int ce), .val (.int cf), .val (.ref b4), .val (.ref s149), .val (.int (Int32.ofNat (n1 + 1 + n2)))] [(.int (58 : Int32)), (.int (f28 (Int32.ofNat (n1 + 1 + n2)) fq151 z_C s_F (own_zs (own_mkn n1 ca cb) (own_mkn n2 cc cd) (own_mkn n3 ce cf)).length))]))
  have hc206 : (f28 (Int32.ofNat (n1 + 1 + n2)) fq151 z_C s_F (own_zs (own_mkn n1 ca cb) (own_mkn n2 cc cd) (own_mkn n3 ce cf)).length) = (58 : Int32) := own_at PZ (by omega) g6 (by decide)
  refine own_go (fun t_ k_ => XS.icmpYes A202.here hx rfl (pc0 := 228) (pc' := 233) rfl (hb hby at_228) rfl (teq hc206).1 (by decide) (by decide) k_) ?_
  show own_Go _ _ _ _ (T201.setTop (mkF m 233 #[.val (.int p0), .val (.int p1), .val (.int p2), .val (.int (Int32.ofNat n1)), .val (.int ca), .val (.int cb), .val (.int (Int32.ofNat n2)), .val (.int cc), .val (.int cd), .val (.int (Int32.ofNat n3)), .val (.int ce), .val (.int cf), .val (.ref b4), .val (.ref s149), .val (.int (Int32.ofNat (n1 + 1 + n2)))] []))
  refine own_go (fun t_ k_ => XS.aload A202.here hx rfl (hb hby at_233) rfl rfl k_) ?_
  show own_Go _ _ _ _ (T201.setTop (mkF m 235 #[.val (.int p0), .val (.int p1), .val (.int p2), .val (.int (Int32.ofNat n1)), .val (.int ca), .val (.int cb), .val (.int (Int32.ofNat n2)), .val (.int cc), .val (.int cd), .val (.int (Int32.ofNat n3)), .val (.int ce), .val (.int cf), .val (.ref b4), .val (.ref s149), .val (.int (Int32.ofNat (n1 + 1 + n2)))] [(.ref s149)]))
  refine own_go (fun t_ k_ => XS.iload A202.here hx rfl (hb hby at_235) rfl k_) ?_
  show own_Go _ _ _ _ (T201.setTop (mkF m 237 #[.val (.int p0), .val (.int p1), .val (.int p2), .val (.int (Int32.ofNat n1)), .val (.int ca), .val (.int cb), .val (.int (Int32.ofNat n2)), .val (.int cc), .val (.int cd), .val (.int (Int32.ofNat n3)), .val (.int ce), .val (.int cf), .val (.ref b4), .val (.ref s149), .val (.int (Int32.ofNat (n1 + 1 + n2)))] [(.int (Int32.ofNat (n1 + 1 + n2))), (.ref s149)]))
  refine own_go (fun t_ k_ => XS.iconst A202.here hx rfl (hb hby at_237) k_) ?_
  show own_Go _ _ _ _ (T201.setTop (mkF m 238 #[.val (.int p0), .val (.int p1), .val (.int p2), .val (.int (Int32.ofNat n1)), .val (.int ca), .val (.int cb), .val (.int (Int32.ofNat n2)), .val (.int cc), .val (.int cd), .val (.int (Int32.ofNat n3)), .val (.int ce), .val (.int cf), .val (.ref b4), .val (.ref s149), .val (.int (Int32.ofNat (n1 + 1 + n2)))] [(.int (1 : Int32)), (.int (Int32.ofNat (n1 + 1 + n2))), (.ref s149)]))
  refine own_go (fun t_ k_ => XS.iadd A202.here hx rfl (hb hby at_238) rfl k_) ?_
  show own_Go _ _ _ _ (T201.setTop (mkF m 239 #[.val (.int p0), .val (.int p1), .val (.int p2), .val (.int (Int32.ofNat n1)), .val (.int ca), .val (.int cb), .val (.int (Int32.ofNat n2)), .val (.int cc), .val (.int cd), .val (.int (Int32.ofNat n3)), .val (.int ce), .val (.int cf), .val (.ref b4), .val (.ref s149), .val (.int (Int32.ofNat (n1 + 1 + n2)))] [(.int ((Int32.ofNat (n1 + 1 + n2)) + (1 : Int32))), (.ref s149)]))
  rw [own_succ]
  show own_Go _ _ _ _ (T201.setTop (mkF m 239 #[.val (.int p0), .val (.int p1), .val (.int p2), .val (.int (Int32.ofNat n1)), .val (.int ca), .val (.int cb), .val (.int (Int32.ofNat n2)), .val (.int cc), .val (.int cd), .val (.int (Int32.ofNat n3)), .val (.int ce), .val (.int cf), .val (.ref b4), .val (.ref s149), .val (.int (Int32.ofNat (n1 + 1 + n2)))] [(.int (Int32.ofNat (n1 + 1 + n2 + 1))), (.ref s149)]))
  refine own_callV A202 hx hZ (y := (⟨"java/lang/String", "charAt", "(I)C"⟩ : MethodName)) (z := (⟨"java/lang/String", "charAt", "(I)C"⟩ : MethodName)) hown (hw _ (List.mem_of_getElem? (i := 158) rfl)) (hw _ (List.mem_of_getElem? (i := 159) rfl)) (hw _ (List.mem_of_getElem? (i := 161) rfl)) (hw _ (List.mem_of_getElem? (i := 160) rfl)) (hw _ (List.mem_of_getElem? (i := 8) rfl)) (hw _ (List.mem_of_getElem? (i := 162) rfl)) (notFace_of_selects (args := #[]) (mvT hZ (hw _ (List.mem_of_getElem? (i := 161) rfl)))) (by decide) (b := s149) (argsL := [(.int (Int32.ofNat (n1 + 1 + n2 + 1)))]) (rest := []) E152 (rm28 l Z a0 hw s149 (Int32.ofNat (n1 + 1 + n2 + 1)) t150 fq151 z_C s_F (own_zs (own_mkn n1 ca cb) (own_mkn n2 cc cd) (own_mkn n3 ce cf)).length h140 n0 E152 F153 F154 V155 (own_nn (by omega)) ((own_nlt (by omega) (by omega)).mpr (by omega)) (S_COMPACT_STRINGS.ext O158.2) hz (S_SIOOBE_FORMATTER.ext O158.2) hr_F) 0 (by decide) (by decide) rfl (by rw [hml]; rfl) (lenOf pd__I_C rfl) rfl (by show 2 * 0 + _ ≤ _; exact Nat.le_of_eq rfl) (hb hby at_239) (by decide) (by decide) (fun v210 T207 h209 A208 hQ211 => ?_)
  obtain ⟨rfl, rfl⟩ := hQ211
  show own_Go _ _ _ _ (T207.setTop (mkF m 242 #[.val (.int p0), .val (.int p1), .val (.int p2), .val (.int (Int32.ofNat n1)), .val (.int ca), .val (.int cb), .val (.int (Int32.ofNat n2)), .val (.int cc), .val (.int cd), .val (.int (Int32.ofNat n3)), .val (.int ce), .val (.int cf), .val (.ref b4), .val (.ref s149), .val (.int (Int32.ofNat (n1 + 1 + n2)))] [(.int (f28 (Int32.ofNat (n1 + 1 + n2 + 1)) fq151 z_C s_F (own_zs (own_mkn n1 ca cb) (own_mkn n2 cc cd) (own_mkn n3 ce cf)).length))]))
  refine own_go (fun t_ k_ => XS.bipush A208.here hx rfl (hb hby at_242) k_) ?_
  show own_Go _ _ _ _ (T207.setTop (mkF m 244 #[.val (.int p0), .val (.int p1), .val (.int p2), .val (.int (Int32.ofNat n1)), .val (.int ca), .val (.int cb), .val (.int (Int32.ofNat n2)), .val (.int cc), .val (.int cd), .val (.int (Int32.ofNat n3)), .val (.int ce), .val (.int cf), .val (.ref b4), .val (.ref s149), .val (.int (Int32.ofNat (n1 + 1 + n2)))] [(.int (32 : Int32)), (.int (f28 (Int32.ofNat (n1 + 1 + n2 + 1)) fq151 z_C s_F (own_zs (own_mkn n1 ca cb) (own_mkn n2 cc cd) (own_mkn n3 ce cf)).length))]))
  have hc212 : (f28 (Int32.ofNat (n1 + 1 + n2 + 1)) fq151 z_C s_F (own_zs (own_mkn n1 ca cb) (own_mkn n2 cc cd) (own_mkn n3 ce cf)).length) = (32 : Int32) := own_at PZ (by omega) g7 (by decide)
  refine own_go (fun t_ k_ => XS.icmpYes A208.here hx rfl (pc0 := 244) (pc' := 249) rfl (hb hby at_244) rfl (teq hc212).1 (by decide) (by decide) k_) ?_
  show own_Go _ _ _ _ (T207.setTop (mkF m 249 #[.val (.int p0), .val (.int p1), .val (.int p2), .val (.int (Int32.ofNat n1)), .val (.int ca), .val (.int cb), .val (.int (Int32.ofNat n2)), .val (.int cc), .val (.int cd), .val (.int (Int32.ofNat n3)), .val (.int ce), .val (.int cf), .val (.ref b4), .val (.ref s149), .val (.int (Int32.ofNat (n1 + 1 + n2)))] []))
  refine own_go (fun t_ k_ => XS.iload A208.here hx rfl (hb hby at_249) rfl k_) ?_
  show own_Go _ _ _ _ (T207.setTop (mkF m 251 #[.val (.int p0), .val (.int p1), .val (.int p2), .val (.int (Int32.ofNat n1)), .val (.int ca), .val (.int cb), .val (.int (Int32.ofNat n2)), .val (.int cc), .val (.int cd), .val (.int (Int32.ofNat n3)), .val (.int ce), .val (.int cf), .val (.ref b4), .val (.ref s149), .val (.int (Int32.ofNat (n1 + 1 + n2)))] [(.int (Int32.ofNat (n1 + 1 + n2)))]))
  refine own_go (fun t_ k_ => XS.iconst A208.here hx rfl (hb hby at_251) k_) ?_
  show own_Go _ _ _ _ (T207.setTop (mkF m 252 #[.val (.int p0), .val (.int p1), .val (.int p2), .val (.int (Int32.ofNat n1)), .val (.int ca), .val (.int cb), .val (.int (Int32.ofNat n2)), .val (.int cc), .val (.int cd), .val (.int (Int32.ofNat n3)), .val (.int ce), .val (.int cf), .val (.ref b4), .val (.ref s149), .val (.int (Int32.ofNat (n1 + 1 + n2)))] [(.int (2 : Int32)), (.int (Int32.ofNat (n1 + 1 + n2)))]))
  refine own_go (fun t_ k_ => XS.iadd A208.here hx rfl (hb hby at_252) rfl k_) ?_
  show own_Go _ _ _ _ (T207.setTop (mkF m 253 #[.val (.int p0), .val (.int p1), .val (.int p2), .val (.int (Int32.ofNat n1)), .val (.int ca), .val (.int cb), .val (.int (Int32.ofNat n2)), .val (.int cc), .val (.int cd), .val (.int (Int32.ofNat n3)), .val (.int ce), .val (.int cf), .val (.ref b4), .val (.ref s149), .val (.int (Int32.ofNat (n1 + 1 + n2)))] [(.int ((Int32.ofNat (n1 + 1 + n2)) + (2 : Int32)))]))
  rw [own_add2]
  show own_Go _ _ _ _ (T207.setTop (mkF m 253 #[.val (.int p0), .val (.int p1), .val (.int p2), .val (.int (Int32.ofNat n1)), .val (.int ca), .val (.int cb), .val (.int (Int32.ofNat n2)), .val (.int cc), .val (.int cd), .val (.int (Int32.ofNat n3)), .val (.int ce), .val (.int cf), .val (.ref b4), .val (.ref s149), .val (.int (Int32.ofNat (n1 + 1 + n2)))] [(.int (Int32.ofNat (n1 + 1 + n2 + 2)))]))
  refine own_go (fun t_ k_ => XS.istore A208.here hx rfl (hb hby at_253) rfl (l' := #[.val (.int p0), .val (.int p1), .val (.int p2), .val (.int (Int32.ofNat n1)), .val (.int ca), .val (.int cb), .val (.int (Int32.ofNat n2)), .val (.int cc), .val (.int cd), .val (.int (Int32.ofNat n3)), .val (.int ce), .val (.int cf), .val (.ref b4), .val (.ref s149), .val (.int (Int32.ofNat (n1 + 1 + n2 + 2)))]) rfl k_) ?_
  show own_Go _ _ _ _ (T207.setTop (mkF m 255 #[.val (.int p0), .val (.int p1), .val (.int p2), .val (.int (Int32.ofNat n1)), .val (.int ca), .val (.int cb), .val (.int (Int32.ofNat n2)), .val (.int cc), .val (.int cd), .val (.int (Int32.ofNat n3)), .val (.int ce), .val (.int cf), .val (.ref b4), .val (.ref s149), .val (.int (Int32.ofNat (n1 + 1 + n2 + 2)))] []))
  refine own_go (fun t_ k_ => XS.aload A208.here hx rfl (hb hby at_255) rfl rfl k_) ?_
  show own_Go _ _ _ _ (T207.setTop (mkF m 257 #[.val (.int p0), .val (.int p1), .val (.int p2), .val (.int (Int32.ofNat n1)), .val (.int ca), .val (.int cb), .val (.int (Int32.ofNat n2)), .val (.int cc), .val (.int cd), .val (.int (Int32.ofNat n3)), .val (.int ce), .val (.int cf), .val (.ref b4), .val (.ref s149), .val (.int (Int32.ofNat (n1 + 1 + n2 + 2)))] [(.ref s149)]))
  refine own_go (fun t_ k_ => XS.iload A208.here hx rfl (hb hby at_257) rfl k_) ?_
  show own_Go _ _ _ _ (T207.setTop (mkF m 259 #[.val (.int p0), .val (.int p1), .val (.int p2), .val (.int (Int32.ofNat n1)), .val (.int ca), .val (.int cb), .val (.int (Int32.ofNat n2)), .val (.int cc), .val (.int cd), .val (.int (Int32.ofNat n3)), .val (.int ce), .val (.int cf), .val (.ref b4), .val (.ref s149), .val (.int (Int32.ofNat (n1 + 1 + n2 + 2)))] [(.int (Int32.ofNat (n1 + 1 + n2 + 2))), (.ref s149)]))
  refine own_go (fun t_ k_ => XS.iload A208.here hx rfl (hb hby at_259) rfl k_) ?_
  show own_Go _ _ _ _ (T207.setTop (mkF m 261 #[.val (.int p0), .val (.int p1), .val (.int p2), .val (.int (Int32.ofNat n1)), .val (.int ca), .val (.int cb), .val (.int (Int32.ofNat n2)), .val (.int cc), .val (.int cd), .val (.int (Int32.ofNat n3)), .val (.int ce), .val (.int cf), .val (.ref b4), .val (.ref s149), .val (.int (Int32.ofNat (n1 + 1 + n2 + 2)))] [(.int (Int32.ofNat n3)), (.int (Int32.ofNat (n1 + 1 + n2 + 2))), (.ref s149)]))
  refine own_go (fun t_ k_ => XS.iload A208.here hx rfl (hb hby at_261) rfl k_) ?_
  show own_Go _ _ _ _ (T207.setTop (mkF m 263 #[.val (.int p0), .val (.int p1), .val (.int p2), .val (.int (Int32.ofNat n1)), .val (.int ca), .val (.int cb), .val (.int (Int32.ofNat n2)), .val (.int cc), .val (.int cd), .val (.int (Int32.ofNat n3)), .val (.int ce), .val (.int cf), .val (.ref b4), .val (.ref s149), .val (.int (Int32.ofNat (n1 + 1 + n2 + 2)))] [(.int ce), (.int (Int32.ofNat n3)), (.int (Int32.ofNat (n1 + 1 + n2 + 2))), (.ref s149)]))
  refine own_go (fun t_ k_ => XS.iload A208.here hx rfl (hb hby at_263) rfl k_) ?_
  show own_Go _ _ _ _ (T207.setTop (mkF m 265 #[.val (.int p0), .val (.int p1), .val (.int p2), .val (.int (Int32.ofNat n1)), .val (.int ca), .val (.int cb), .val (.int (Int32.ofNat n2)), .val (.int cc), .val (.int cd), .val (.int (Int32.ofNat n3)), .val (.int ce), .val (.int cf), .val (.ref b4), .val (.ref s149), .val (.int (Int32.ofNat (n1 + 1 + n2 + 2)))] [(.int cf), (.int ce), (.int (Int32.ofNat n3)), (.int (Int32.ofNat (n1 + 1 + n2 + 2))), (.ref s149)]))
  refine own_callS A208 hx hZ hown (y := (⟨"com/example/crosstie/crosstie/FailureLinePinLaw", "has", "(Ljava/lang/String;IICC)Z"⟩ : MethodName)) (hw _ (List.mem_of_getElem? (i := 155) rfl)) (hw _ (List.mem_of_getElem? (i := 156) rfl)) (hw _ (List.mem_of_getElem? (i := 5) rfl)) (hw _ (List.mem_of_getElem? (i := 157) rfl)) (by decide) (argsL := [(.ref s149), (.int (Int32.ofNat (n1 + 1 + n2 + 2))), (.int (Int32.ofNat n3)), (.int ce), (.int cf)]) (rest := []) (rm27 l Z a0 hw s149 (Int32.ofNat (n1 + 1 + n2 + 2)) (Int32.ofNat n3) ce cf t150 fq151 (own_zs (own_mkn n1 ca cb) (own_mkn n2 cc cd) (own_mkn n3 ce cf)).length z_C s_F h140 n0 E152 F153 F154 V155 (S_COMPACT_STRINGS.ext O158.2) hz (S_SIOOBE_FORMATTER.ext O158.2) hr_F (fun z => have q : 0 < n3 := ((own_nlt (i := 0) (by decide) (by omega)).mp z); ⟨own_in (by omega) (by omega), own_at PZ (by omega) (g8 q) (own_back hce)⟩) (fun z => have q : 1 < n3 := ((own_nlt (i := 1) (by decide) (by omega)).mp z); by rw [own_succ]; exact ⟨own_in (by omega) (by omega), own_at PZ (by omega) (g9 q) (own_back hcf)⟩)) 0 (by decide) (by decide) rfl (by rw [hml]; rfl) (lenOf pd__Ljava_lang_String_IICC_Z rfl) rfl (by show 2 * 0 + _ ≤ _; exact Nat.le_of_eq rfl) (hb hby at_265) (by decide) (by decide) (fun v216 T213 h215 A214 hQ217 => ?_)
  obtain ⟨rfl, rfl⟩ := hQ217
  show own_Go _ _ _ _ (T213.setTop (mkF m 268 #[.val (.int p0), .val (.int p1), .val (.int p2), .val (.int (Int32.ofNat n1)), .val (.int ca), .val (.int cb), .val (.int (Int32.ofNat n2)), .val (.int cc), .val (.int cd), .val (.int (Int32.ofNat n3)), .val (.int ce), .val (.int cf), .val (.ref b4), .val (.ref s149), .val (.int (Int32.ofNat (n1 + 1 + n2 + 2)))] [(.int (1 : Int32))]))
  refine own_retNC A214 hx (t := .boolean) hret (by simp) hlk (by decide) (by decide) hZ hEL hs0 C157 hS146 hk147 (hb hby at_268) ?_
  exact ⟨rfl, trivial⟩
set_option maxRecDepth 65536 in
set_option maxHeartbeats 40000000 in
theorem comes_1 {Post : Tables → Env → Array Value → State → Outcome → State → Prop} (hpost : ∀ tb e args s v u, (limb_1_1.after args s (.returned v) u = true ∧ limb_1_2.after args s (.returned v) u = true ∧ True) → ReturnedEndW s (.returned v) u (Jvm.fieldLocs frame_1_writes args s ++ Jvm.arrayLocs frame_1_arrays args s ++ Jvm.staticLocs frame_1_statics s) 48 3328 → Post tb e args s (.returned v) u) :
    ArmFor flags0 classFile x code maxLocals ret World_1 tables_1 room_1 Calls_1 rest_1 Pre_1 Post := by
  intro l hfl _ _ p e ha hc hk s m args below hf hA hF happ hP
  obtain ⟨hcalls, hrest, hpre⟩ := hP
  obtain ⟨-, -, -, hnamed, -, -, -, hat⟩ := (Spec.applies_iff hf).mp happ
  obtain ⟨hg, hn⟩ := and_e (Cond.before_iff.mp (show (Jvm.Cond.and given_1 narrow_1).before args s = true from hpre))
  obtain ⟨gc, gr⟩ := and_e hg
  obtain ⟨w0, w1, w2, rfl⟩ : ∃ w0 w1 w2 : Value, args = #[w0, w1, w2] := by
    have hs : args.size = 3 := by simpa [Cond.value, given_1] using gc
    obtain ⟨L⟩ := args
    match L, hs with
    | [w0, w1, w2], _ => exact ⟨w0, w1, w2, rfl⟩
  have hw := fun d (hd : d ∈ tables_1) => atoms_spec (ws := Jvm.Cond.code x code maxLocals ret :: tables_1) hat d (List.mem_cons_of_mem _ hd)
  have hfit : Fit s := fun {y c} hc i hi => by
    obtain ⟨ha, rfl⟩ := Array.getElem?_eq_some_iff.mp hc
    have q := List.all_eq_true.mp ((Array.all_eq_true_iff_forall_mem.mp hF) _ (Array.getElem_mem ha)) i (List.mem_range.mpr hi)
    simpa [Array.getElem?_eq_getElem hi] using q
  obtain ⟨q0, gr0⟩ := and_e gr
  obtain ⟨i0, ei0⟩ := is_v q0
  obtain rfl : w0 = (.int i0) := Option.some.inj ei0
  obtain ⟨q1, gr1⟩ := and_e gr0
  obtain ⟨i1, ei1⟩ := is_v q1
  obtain rfl : w1 = (.int i1) := Option.some.inj ei1
  obtain ⟨i2, ei2⟩ := is_v gr1
  obtain rfl : w2 = (.int i2) := Option.some.inj ei2
  obtain ⟨hsets, hown0⟩ := atoms_of _ (rest_1_c_eq ▸ (show rest_1_c.before _ s = true from hrest))
  obtain ⟨z_C, e_C⟩ := is_v (Cond.before_iff.mp (hsets _ (List.mem_of_getElem? (i := 1) rfl)))
  have S_C : Sta s s.heap "java/lang/String" "COMPACT_STRINGS" "Z" (.int z_C) := Sta.start e_C (Or.inl (hsets _ (List.mem_of_getElem? (i := 0) rfl)))
  have hcw : Jvm.Lit.compactW.before _ s = true := hsets _ (List.mem_of_getElem? (i := 2) rfl)
  have hz : ¬ (z_C = (0 : Int32)) := gotF (Cond.eq_ints e_C (Term.int_eval (0))) (not_v (Cond.before_iff.mp (hsets _ (List.mem_of_getElem? (i := 2) rfl))))
  obtain ⟨s_F, e_F, hr_F⟩ := isR_v (Cond.before_iff.mp (hsets _ (List.mem_of_getElem? (i := 8) rfl)))
  have S_F : Sta s s.heap "jdk/internal/util/Preconditions" "SIOOBE_FORMATTER" "Ljava/util/function/BiFunction;" s_F := Sta.start e_F (Or.inl (hsets _ (List.mem_of_getElem? (i := 7) rfl)))
  have wS := own_wS hw
  have hCH : CHv s consts_1 s.vm s.heap := CHv.start (own_EW hw) (fun q hq => hcalls.1 q hq) hcw (wS _ (by simp [Bundle.stringAtoms])) (wS _ (by simp [Bundle.stringAtoms, Bundle.sN]))
  obtain ⟨n, o, h1, h2, h3, _, L, rfl, ⟨⟨rfl, hQ⟩, N⟩, _, hq⟩ := rm0 l s _ hw i0 i1 i2 z_C s_F s.heap s.heap.size (Old.start s) (Nat.le_refl _) hz hr_F S_C S_F tables_1 p e ha hc hk s m _ below hf ((Spec.applies_iff_loose hf).mp happ).1 ⟨rfl, State.Warmed39.refl s, rfl, hCH⟩ trivial
  refine ⟨n, _, h1, h2, h3, hpost _ _ _ _ _ _ ⟨Cond.after_iff.mpr rfl, Cond.after_iff.mpr (eq_i res_at (Term.int_eval (1)) rfl), trivial⟩ ⟨hq.1, hq.2.1, hq.2.2.1, (hq.2.2.2.sift fun y hy => Or.inr (N y hy)).mono (by decide) (by decide)⟩⟩
theorem main_1_1 : Claimed_1_1 := comes_1 fun _ _ _ _ _ _ h hF => ⟨h.1, hF⟩
theorem main_1_2 : Claimed_1_2 := comes_1 fun _ _ _ _ _ _ h hF => ⟨h.2.1, hF⟩
end Jvm.Pilot.@@N@@
namespace Jvm.Pilot.@@N@@
open Jvm Jvm.ClassFile Sem Op Lib Jvm.Free Jvm.Stand Jvm.Pilot.@@N@@.Jvm.D
/-! MADE BY PROGRAM (witnessworld.py) out of the Statement's table words and the real class files: 27 classes; the members and pool entries that the words name. The judged class is class 1, her method 3. -/
namespace start1
open Jvm.ClassFile
def u (s : String) : CpInfo := .utf8 (stringToUtf16 s)
/-- a pool by its gaps: so many unusable entries, then the entry; so many at the end -/
def gap : Nat → List CpInfo → List CpInfo
  | 0, r => r
  | n + 1, r => .unusable :: gap n r
def poolList (es : List (Nat × CpInfo)) (last : Nat) : List CpInfo := es.foldr (fun e r => gap e.1 (e.2 :: r)) (gap last [])
def pool (es : List (Nat × CpInfo)) (last : Nat) : Array CpInfo := ⟨poolList es last⟩
def fileOf (pool : Array CpInfo) (this : Nat) (attrs : Array Attribute := #[]) (ms : Array MethodInfo := #[]) (fl : Nat := 33) (sup : Nat := 0) (ifs : Array Nat := #[]) (fds : Array FieldInfo := #[]) : ClassFile where
  minorVersion := 0
  majorVersion := 65
  constantPool := pool
  accessFlags := fl
  thisClass := this
  superClass := sup
  interfaces := ifs
  fields := fds
  methods := ms
  attributes := attrs
def plain (name : String) (sup : Option ClassId) : Class where
  name := name
  kind := .ordinary
  loader := none
  accessFlags := 33
  super := sup
  interfaces := #[]
  cf := none
  fields := #[]
  methods := #[]
  instanceTypes := #[]
  staticTypes := #[]
  resolved := #[]
  callSites := []
  init := .initialized
  statics := none
  mirror := none

def pool0 : Array CpInfo := pool [(5, u "<init>"), (0, u "()V"), (1, .class_ 10), (1, u "java/lang/Object")] 113

def k0c0 : Code := { maxStack := 0, maxLocals := 1, code := object_method_1_code, exceptionTable := #[], attributes := #[] }
def k0m0 : Method := { name := "<init>", desc := "()V", sig := { parameters := [], returnType := none }, accessFlags := 1, code := some k0c0 }
/-- java/lang/Object -/
def k0 : Class := { plain "java/lang/Object" none with
  accessFlags := 33
  interfaces := #[]
  cf := some (fileOf pool0 8 #[] #[{ accessFlags := 1, nameIndex := 5, descriptorIndex := 6, attributes := #[] }] 33 0 #[] #[])
  fields := #[]
  methods := #[k0m0]
  instanceTypes := #[]
  staticTypes := #[]
  resolved := Array.replicate 124 none
  statics := none }

def pool1 : Array CpInfo := pool [(2, .class_ 4), (1, u "java/lang/Object"), (0, u "<init>"), (0, u "()V"), (0, .string 8), (0, u ""), (0, .methodref 10 11), (0, .class_ 12), (0, .nameAndType 13 14), (0, u "java/lang/String"), (0, u "valueOf"), (0, u "(C)Ljava/lang/String;"), (0, .methodref 10 16), (0, .nameAndType 5 17), (0, u "([C)V"), (0, .methodref 10 19), (0, .nameAndType 20 21), (0, u "charAt"), (0, u "(I)C"), (0, .class_ 23), (0, u "com/example/crosstie/crosstie/Failure"), (0, .methodref 25 26), (0, .class_ 27), (0, .nameAndType 28 29), (0, u "com/example/crosstie/crosstie/FailureLinePinLaw"), (0, u "mk"), (0, u "(ICC)Ljava/lang/String;"), (0, .methodref 22 31), (0, .nameAndType 5 32), (0, u "(Ljava/lang/String;Ljava/lang/String;Ljava/lang/String;)V"), (0, .methodref 22 34), (0, .nameAndType 35 36), (0, u "line"), (0, u "()Ljava/lang/String;"), (0, .methodref 10 38), (0, .nameAndType 39 40), (0, u "length"), (0, u "()I"), (0, .methodref 25 42), (0, .nameAndType 43 44), (0, u "has"), (0, u "(Ljava/lang/String;IICC)Z"), (3, u "law"), (0, u "(III)Z")] 2

def k1m0 : Method := { name := "<init>", desc := "()V", sig := { parameters := [], returnType := none }, accessFlags := 1, code := none }
def k1c1 : Code := { maxStack := 6, maxLocals := 3, code := method_2_code, exceptionTable := #[], attributes := #[] }
def k1m1 : Method := { name := "mk", desc := "(ICC)Ljava/lang/String;", sig := { parameters := [.int, .char, .char], returnType := some (.object "java/lang/String") }, accessFlags := 10, code := some k1c1 }
def k1c2 : Code := { maxStack := 3, maxLocals := 5, code := method_3_code, exceptionTable := #[], attributes := #[] }
def k1m2 : Method := { name := "has", desc := "(Ljava/lang/String;IICC)Z", sig := { parameters := [(.object "java/lang/String"), .int, .int, .char, .char], returnType := some .boolean }, accessFlags := 10, code := some k1c2 }
def k1c3 : Code := { maxStack := 7, maxLocals := 15, code := code, exceptionTable := #[], attributes := #[] }
def k1m3 : Method := { name := "law", desc := "(III)Z", sig := { parameters := [.int, .int, .int], returnType := some .boolean }, accessFlags := 9, code := some k1c3 }
/-- com/example/crosstie/crosstie/FailureLinePinLaw -/
def k1 : Class := { plain "com/example/crosstie/crosstie/FailureLinePinLaw" (some 0) with
  accessFlags := 49
  interfaces := #[]
  cf := some (fileOf pool1 25 #[] #[{ accessFlags := 1, nameIndex := 5, descriptorIndex := 6, attributes := #[] }, { accessFlags := 10, nameIndex := 28, descriptorIndex := 29, attributes := #[] }, { accessFlags := 10, nameIndex := 43, descriptorIndex := 44, attributes := #[] }, { accessFlags := 9, nameIndex := 48, descriptorIndex := 49, attributes := #[] }] 49 2 #[] #[])
  fields := #[]
  methods := #[k1m0, k1m1, k1m2, k1m3]
  instanceTypes := #[]
  staticTypes := #[]
  resolved := Array.replicate 52 none
  statics := none }

def pool2 : Array CpInfo := pool [(1, .methodref 2 3), (0, .class_ 4), (0, .nameAndType 5 6), (0, u "java/lang/Object"), (0, u "<init>"), (0, u "()V"), (0, .class_ 8), (0, u "java/lang/Record")] 13

def k2c0 : Code := { maxStack := 1, maxLocals := 1, code := jdk_30_method_1_code, exceptionTable := #[], attributes := #[] }
def k2m0 : Method := { name := "<init>", desc := "()V", sig := { parameters := [], returnType := none }, accessFlags := 4, code := some k2c0 }
/-- java/lang/Record -/
def k2 : Class := { plain "java/lang/Record" (some 0) with
  accessFlags := 1057
  interfaces := #[]
  cf := some (fileOf pool2 7 #[] #[{ accessFlags := 4, nameIndex := 5, descriptorIndex := 6, attributes := #[] }] 1057 2 #[] #[])
  fields := #[]
  methods := #[k2m0]
  instanceTypes := #[]
  staticTypes := #[]
  resolved := Array.replicate 22 none
  statics := none }

def pool3 : Array CpInfo := pool [(1, .methodref 2 3), (0, .class_ 4), (0, .nameAndType 5 6), (0, u "java/lang/Record"), (0, u "<init>"), (0, u "()V"), (0, .fieldref 8 9), (0, .class_ 10), (0, .nameAndType 11 12), (0, u "com/example/crosstie/crosstie/Failure"), (0, u "rule"), (0, u "Ljava/lang/String;"), (0, .fieldref 8 14), (0, .nameAndType 15 12), (0, u "where"), (0, .fieldref 8 17), (0, .nameAndType 18 12), (0, u "explanation"), (0, .class_ 20), (0, u "java/lang/StringBuilder"), (0, .methodref 19 3), (0, .methodref 19 23), (0, .nameAndType 24 25), (0, u "append"), (0, u "(Ljava/lang/String;)Ljava/lang/StringBuilder;"), (0, .string 27), (0, u " "), (0, .string 29), (0, u ": "), (0, .methodref 19 31), (0, .nameAndType 32 33), (0, u "toString"), (0, u "()Ljava/lang/String;"), (2, u "line"), (35, u "REPORT_ORDER"), (0, u "Ljava/util/Comparator;"), (2, u "(Ljava/lang/String;Ljava/lang/String;Ljava/lang/String;)V")] 43

def k3c0 : Code := { maxStack := 2, maxLocals := 4, code := prog_4_method_1_code, exceptionTable := #[], attributes := #[] }
def k3m0 : Method := { name := "<init>", desc := "(Ljava/lang/String;Ljava/lang/String;Ljava/lang/String;)V", sig := { parameters := [(.object "java/lang/String"), (.object "java/lang/String"), (.object "java/lang/String")], returnType := none }, accessFlags := 1, code := some k3c0 }
def k3c1 : Code := { maxStack := 2, maxLocals := 1, code := prog_4_method_2_code, exceptionTable := #[], attributes := #[] }
def k3m1 : Method := { name := "line", desc := "()Ljava/lang/String;", sig := { parameters := [], returnType := some (.object "java/lang/String") }, accessFlags := 1, code := some k3c1 }
/-- com/example/crosstie/crosstie/Failure -/
def k3 : Class := { plain "com/example/crosstie/crosstie/Failure" (some 2) with
  accessFlags := 49
  interfaces := #[]
  cf := some (fileOf pool3 8 #[] #[{ accessFlags := 1, nameIndex := 5, descriptorIndex := 76, attributes := #[] }, { accessFlags := 1, nameIndex := 36, descriptorIndex := 33, attributes := #[] }] 49 2 #[] #[{ accessFlags := 18, nameIndex := 11, descriptorIndex := 12, attributes := #[] }, { accessFlags := 18, nameIndex := 15, descriptorIndex := 12, attributes := #[] }, { accessFlags := 18, nameIndex := 18, descriptorIndex := 12, attributes := #[] }, { accessFlags := 24, nameIndex := 72, descriptorIndex := 73, attributes := #[] }])
  fields := #[{ name := "rule", type := (.object "java/lang/String"), accessFlags := 18, slot := 0, constantValue := 0 }, { name := "where", type := (.object "java/lang/String"), accessFlags := 18, slot := 1, constantValue := 0 }, { name := "explanation", type := (.object "java/lang/String"), accessFlags := 18, slot := 2, constantValue := 0 }, { name := "REPORT_ORDER", type := (.object "java/util/Comparator"), accessFlags := 24, slot := 0, constantValue := 0 }]
  methods := #[k3m0, k3m1]
  instanceTypes := #[(.object "java/lang/String"), (.object "java/lang/String"), (.object "java/lang/String")]
  staticTypes := #[(.object "java/util/Comparator")]
  resolved := Array.replicate 120 none
  statics := none }

def pool4 : Array CpInfo := pool [(1, .class_ 2), (0, u "java/io/Serializable"), (0, .class_ 4), (0, u "java/lang/Object")] 2

/-- java/io/Serializable -/
def k4 : Class := { plain "java/io/Serializable" (some 0) with
  accessFlags := 1537
  interfaces := #[]
  cf := some (fileOf pool4 1 #[] #[] 1537 3 #[] #[])
  fields := #[]
  methods := #[]
  instanceTypes := #[]
  staticTypes := #[]
  resolved := Array.replicate 7 none
  statics := none }

def pool5 : Array CpInfo := pool [(1, .class_ 2), (0, u "java/lang/Comparable"), (0, .class_ 4), (0, u "java/lang/Object")] 7

/-- java/lang/Comparable -/
def k5 : Class := { plain "java/lang/Comparable" (some 0) with
  accessFlags := 1537
  interfaces := #[]
  cf := some (fileOf pool5 1 #[] #[] 1537 3 #[] #[])
  fields := #[]
  methods := #[]
  instanceTypes := #[]
  staticTypes := #[]
  resolved := Array.replicate 12 none
  statics := none }

def pool6 : Array CpInfo := pool [(2, .class_ 4), (1, u "java/lang/CharSequence"), (42, .class_ 48), (0, u "java/lang/CharSequence$1CodePointIterator"), (10, .class_ 60), (0, u "java/lang/CharSequence$1CharIterator"), (5, .class_ 67), (0, u "java/lang/Object")] 63

/-- java/lang/CharSequence -/
def k6 : Class := { plain "java/lang/CharSequence" (some 0) with
  accessFlags := 1537
  interfaces := #[]
  cf := some (fileOf pool6 2 #[.nestMembers #[47, 59]] #[] 1537 66 #[] #[])
  fields := #[]
  methods := #[]
  instanceTypes := #[]
  staticTypes := #[]
  resolved := Array.replicate 131 none
  statics := none }

def pool7 : Array CpInfo := pool [(1, .class_ 2), (0, u "java/lang/constant/Constable"), (0, .class_ 4), (0, u "java/lang/Object")] 6

/-- java/lang/constant/Constable -/
def k7 : Class := { plain "java/lang/constant/Constable" (some 0) with
  accessFlags := 1537
  interfaces := #[]
  cf := some (fileOf pool7 1 #[] #[] 1537 3 #[] #[])
  fields := #[]
  methods := #[]
  instanceTypes := #[]
  staticTypes := #[]
  resolved := Array.replicate 11 none
  statics := none }

def pool8 : Array CpInfo := pool [(1, .class_ 2), (0, u "java/lang/constant/ConstantDesc"), (0, .class_ 4), (0, u "java/lang/Object")] 32

/-- java/lang/constant/ConstantDesc -/
def k8 : Class := { plain "java/lang/constant/ConstantDesc" (some 0) with
  accessFlags := 1537
  interfaces := #[]
  cf := some (fileOf pool8 1 #[] #[] 1537 3 #[] #[])
  fields := #[]
  methods := #[]
  instanceTypes := #[]
  staticTypes := #[]
  resolved := Array.replicate 37 none
  statics := none }

def pool9 : Array CpInfo := pool [(1, .methodref 2 3), (0, .class_ 4), (0, .nameAndType 5 6), (0, u "java/lang/Object"), (0, u "<init>"), (0, u "()V"), (2, .fieldref 10 11), (0, .class_ 12), (0, .nameAndType 13 14), (0, u "java/lang/String"), (0, u "value"), (0, u "[B"), (0, .fieldref 10 16), (0, .nameAndType 17 18), (0, u "coder"), (0, u "B"), (2, u "hash"), (0, u "I"), (2, u "hashIsZero"), (0, u "Z"), (0, .methodref 10 28), (0, .nameAndType 5 29), (0, u "([CIILjava/lang/Void;)V"), (8, .fieldref 10 39), (0, .nameAndType 40 26), (0, u "COMPACT_STRINGS"), (1, .class_ 44), (1, u "java/lang/StringUTF16"), (0, u "compress"), (1, .methodref 42 48), (0, .nameAndType 49 50), (0, u "coderFromArrayLen"), (0, u "([BI)B"), (2, u "toBytes"), (0, .methodref 55 56), (0, .class_ 57), (0, .nameAndType 58 59), (0, u "java/util/Arrays"), (0, u "copyOfRange"), (0, u "([BII)[B"), (47, .class_ 109), (1, u "java/lang/StringLatin1"), (32, u "()Z"), (34, .methodref 42 178), (0, .nameAndType 45 179), (0, u "([CII)[B"), (13, .class_ 195), (1, u "java/lang/System"), (13, .methodref 10 210), (0, .nameAndType 5 211), (0, u "([BB)V"), (0, .methodref 193 213), (0, .nameAndType 214 215), (0, u "arraycopy"), (0, u "(Ljava/lang/Object;ILjava/lang/Object;II)V"), (118, u "()I"), (0, .methodref 10 336), (0, .nameAndType 17 337), (0, u "()B"), (2, u "()[B"), (22, u "([BI)C"), (5, u "(C)Z"), (21, u "(II)V"), (35, u "(I)C"), (61, .methodref 10 490), (0, .nameAndType 5 491), (0, u "(Ljava/lang/AbstractStringBuilder;Ljava/lang/Void;)V"), (0, .methodref 10 493), (0, .nameAndType 494 142), (0, u "isLatin1"), (0, .methodref 107 496), (0, .nameAndType 497 363), (0, u "charAt"), (3, u "checkIndex"), (4, .nameAndType 507 334), (0, u "length"), (24, u "getBytes"), (16, .methodref 550 506), (0, .class_ 551), (0, u "java/lang/AbstractStringBuilder"), (0, .methodref 550 553), (0, .nameAndType 554 340), (0, u "getValue"), (20, .class_ 576), (0, u "java/lang/CharSequence"), (22, u "CASE_INSENSITIVE_ORDER"), (0, u "Ljava/util/Comparator;"), (181, u "valueOf"), (0, u "(C)Ljava/lang/String;"), (37, u "([BIB)V"), (188, u "([C)V"), (4, .methodref 107 1016), (0, .nameAndType 1017 369), (0, u "canEncode"), (0, .methodref 107 1019), (0, .nameAndType 53 1020), (0, u "(C)[B"), (26, .methodref 550 493), (5, .fieldref 1054 1055), (0, .class_ 1056), (0, .nameAndType 1057 1058), (0, u "jdk/internal/util/Preconditions"), (0, u "SIOOBE_FORMATTER"), (0, u "Ljava/util/function/BiFunction;"), (0, .methodref 1054 1060), (0, .nameAndType 501 1061), (0, u "(IILjava/util/function/BiFunction;)I"), (39, u "serialPersistentFields"), (0, u "[Ljava/io/ObjectStreamField;"), (0, .class_ 1104), (0, u "java/lang/String$CaseInsensitiveComparator"), (1, .class_ 1107), (0, u "java/io/Serializable"), (0, .class_ 1109), (0, u "java/lang/Comparable"), (0, .class_ 1111), (0, u "java/lang/constant/Constable"), (0, .class_ 1113), (0, u "java/lang/constant/ConstantDesc"), (2, u "serialVersionUID"), (0, u "J"), (3, u "REPL"), (0, u "C"), (2, u "LATIN1"), (1, u "UTF16"), (105, u "(Ljava/lang/StringBuilder;)V")] 217

def k9m0 : Method := { name := "<init>", desc := "()V", sig := { parameters := [], returnType := none }, accessFlags := 1, code := none }
def k9c1 : Code := { maxStack := 5, maxLocals := 2, code := jdk_42_method_3_code, exceptionTable := #[], attributes := #[] }
def k9m1 : Method := { name := "<init>", desc := "([C)V", sig := { parameters := [(.array .char)], returnType := none }, accessFlags := 1, code := some k9c1 }
def k9c2 : Code := { maxStack := 3, maxLocals := 2, code := jdk_42_method_53_code, exceptionTable := #[], attributes := #[] }
def k9m2 : Method := { name := "<init>", desc := "(Ljava/lang/StringBuilder;)V", sig := { parameters := [(.object "java/lang/StringBuilder")], returnType := none }, accessFlags := 1, code := some k9c2 }
def k9c3 : Code := { maxStack := 2, maxLocals := 1, code := jdk_42_method_54_code, exceptionTable := #[], attributes := #[] }
def k9m3 : Method := { name := "length", desc := "()I", sig := { parameters := [], returnType := some .int }, accessFlags := 1, code := some k9c3 }
def k9c4 : Code := { maxStack := 2, maxLocals := 2, code := jdk_42_method_56_code, exceptionTable := #[], attributes := #[] }
def k9m4 : Method := { name := "charAt", desc := "(I)C", sig := { parameters := [.int], returnType := some .char }, accessFlags := 1, code := some k9c4 }
def k9c5 : Code := { maxStack := 4, maxLocals := 1, code := jdk_42_method_139_code, exceptionTable := #[], attributes := #[] }
def k9m5 : Method := { name := "valueOf", desc := "(C)Ljava/lang/String;", sig := { parameters := [.char], returnType := some (.object "java/lang/String") }, accessFlags := 9, code := some k9c5 }
def k9c6 : Code := { maxStack := 5, maxLocals := 4, code := jdk_42_method_147_code, exceptionTable := #[], attributes := #[] }
def k9m6 : Method := { name := "getBytes", desc := "([BIB)V", sig := { parameters := [(.array .byte), .int, .byte], returnType := none }, accessFlags := 0, code := some k9c6 }
def k9c7 : Code := { maxStack := 4, maxLocals := 6, code := jdk_42_method_149_code, exceptionTable := #[], attributes := #[] }
def k9m7 : Method := { name := "<init>", desc := "([CIILjava/lang/Void;)V", sig := { parameters := [(.array .char), .int, .int, (.object "java/lang/Void")], returnType := none }, accessFlags := 2, code := some k9c7 }
def k9c8 : Code := { maxStack := 5, maxLocals := 5, code := jdk_42_method_150_code, exceptionTable := #[], attributes := #[] }
def k9m8 : Method := { name := "<init>", desc := "(Ljava/lang/AbstractStringBuilder;Ljava/lang/Void;)V", sig := { parameters := [(.object "java/lang/AbstractStringBuilder"), (.object "java/lang/Void")], returnType := none }, accessFlags := 0, code := some k9c8 }
def k9c9 : Code := { maxStack := 2, maxLocals := 3, code := jdk_42_method_151_code, exceptionTable := #[], attributes := #[] }
def k9m9 : Method := { name := "<init>", desc := "([BB)V", sig := { parameters := [(.array .byte), .byte], returnType := none }, accessFlags := 0, code := some k9c9 }
def k9c10 : Code := { maxStack := 1, maxLocals := 1, code := jdk_42_method_152_code, exceptionTable := #[], attributes := #[] }
def k9m10 : Method := { name := "coder", desc := "()B", sig := { parameters := [], returnType := some .byte }, accessFlags := 0, code := some k9c10 }
def k9c11 : Code := { maxStack := 1, maxLocals := 1, code := jdk_42_method_154_code, exceptionTable := #[], attributes := #[] }
def k9m11 : Method := { name := "isLatin1", desc := "()Z", sig := { parameters := [], returnType := some .boolean }, accessFlags := 0, code := some k9c11 }
def k9c12 : Code := { maxStack := 3, maxLocals := 2, code := jdk_42_method_155_code, exceptionTable := #[], attributes := #[] }
def k9m12 : Method := { name := "checkIndex", desc := "(II)V", sig := { parameters := [.int, .int], returnType := none }, accessFlags := 8, code := some k9c12 }
/-- java/lang/String -/
def k9 : Class := { plain "java/lang/String" (some 0) with
  accessFlags := 49
  interfaces := #[4, 5, 6, 7, 8]
  cf := some (fileOf pool9 10 #[.nestMembers #[1103]] #[{ accessFlags := 1, nameIndex := 5, descriptorIndex := 6, attributes := #[] }, { accessFlags := 1, nameIndex := 5, descriptorIndex := 1010, attributes := #[] }, { accessFlags := 1, nameIndex := 5, descriptorIndex := 1233, attributes := #[] }, { accessFlags := 1, nameIndex := 507, descriptorIndex := 334, attributes := #[] }, { accessFlags := 1, nameIndex := 497, descriptorIndex := 427, attributes := #[] }, { accessFlags := 9, nameIndex := 782, descriptorIndex := 783, attributes := #[] }, { accessFlags := 0, nameIndex := 532, descriptorIndex := 821, attributes := #[] }, { accessFlags := 2, nameIndex := 5, descriptorIndex := 29, attributes := #[] }, { accessFlags := 0, nameIndex := 5, descriptorIndex := 491, attributes := #[] }, { accessFlags := 0, nameIndex := 5, descriptorIndex := 211, attributes := #[] }, { accessFlags := 0, nameIndex := 17, descriptorIndex := 337, attributes := #[] }, { accessFlags := 0, nameIndex := 494, descriptorIndex := 142, attributes := #[] }, { accessFlags := 8, nameIndex := 501, descriptorIndex := 391, attributes := #[] }] 49 2 #[1106, 1108, 575, 1110, 1112] #[{ accessFlags := 18, nameIndex := 13, descriptorIndex := 14, attributes := #[] }, { accessFlags := 18, nameIndex := 17, descriptorIndex := 18, attributes := #[] }, { accessFlags := 2, nameIndex := 21, descriptorIndex := 22, attributes := #[] }, { accessFlags := 2, nameIndex := 25, descriptorIndex := 26, attributes := #[] }, { accessFlags := 26, nameIndex := 1116, descriptorIndex := 1117, attributes := #[] }, { accessFlags := 24, nameIndex := 40, descriptorIndex := 26, attributes := #[] }, { accessFlags := 26, nameIndex := 1101, descriptorIndex := 1102, attributes := #[] }, { accessFlags := 26, nameIndex := 1121, descriptorIndex := 1122, attributes := #[] }, { accessFlags := 25, nameIndex := 599, descriptorIndex := 600, attributes := #[] }, { accessFlags := 24, nameIndex := 1125, descriptorIndex := 18, attributes := #[] }, { accessFlags := 24, nameIndex := 1127, descriptorIndex := 18, attributes := #[] }])
  fields := #[{ name := "value", type := (.array .byte), accessFlags := 18, slot := 0, constantValue := 0 }, { name := "coder", type := .byte, accessFlags := 18, slot := 1, constantValue := 0 }, { name := "hash", type := .int, accessFlags := 2, slot := 2, constantValue := 0 }, { name := "hashIsZero", type := .boolean, accessFlags := 2, slot := 3, constantValue := 0 }, { name := "serialVersionUID", type := .long, accessFlags := 26, slot := 0, constantValue := 0 }, { name := "COMPACT_STRINGS", type := .boolean, accessFlags := 24, slot := 1, constantValue := 0 }, { name := "serialPersistentFields", type := (.array (.object "java/io/ObjectStreamField")), accessFlags := 26, slot := 2, constantValue := 0 }, { name := "REPL", type := .char, accessFlags := 26, slot := 3, constantValue := 0 }, { name := "CASE_INSENSITIVE_ORDER", type := (.object "java/util/Comparator"), accessFlags := 25, slot := 4, constantValue := 0 }, { name := "LATIN1", type := .byte, accessFlags := 24, slot := 5, constantValue := 0 }, { name := "UTF16", type := .byte, accessFlags := 24, slot := 6, constantValue := 0 }]
  methods := #[k9m0, k9m1, k9m2, k9m3, k9m4, k9m5, k9m6, k9m7, k9m8, k9m9, k9m10, k9m11, k9m12]
  instanceTypes := #[(.array .byte), .byte, .int, .boolean]
  staticTypes := #[.long, .boolean, (.array (.object "java/io/ObjectStreamField")), .char, (.object "java/util/Comparator"), .byte, .byte]
  resolved := Array.replicate 1451 none
  statics := some 0 }

def pool10 : Array CpInfo := pool [(1, .class_ 2), (0, u "java/lang/Appendable"), (0, .class_ 4), (0, u "java/lang/Object")] 9

/-- java/lang/Appendable -/
def k10 : Class := { plain "java/lang/Appendable" (some 0) with
  accessFlags := 1537
  interfaces := #[]
  cf := some (fileOf pool10 1 #[] #[] 1537 3 #[] #[])
  fields := #[]
  methods := #[]
  instanceTypes := #[]
  staticTypes := #[]
  resolved := Array.replicate 14 none
  statics := none }

def pool11 : Array CpInfo := pool [(1, .class_ 2), (0, u "java/lang/String"), (0, .methodref 4 5), (0, .class_ 6), (0, .nameAndType 7 8), (0, u "java/lang/Object"), (0, u "<init>"), (0, u "()V"), (1, .class_ 12), (1, u "java/lang/AbstractStringBuilder"), (0, u "EMPTYVALUE"), (0, u "[B"), (0, .fieldref 10 16), (0, .nameAndType 17 14), (0, u "value"), (0, .fieldref 1 19), (0, .nameAndType 20 21), (0, u "COMPACT_STRINGS"), (0, u "Z"), (0, .fieldref 10 23), (0, .nameAndType 24 25), (0, u "coder"), (0, u "B"), (6, .methodref 1 33), (0, .nameAndType 34 35), (0, u "length"), (0, u "()I"), (4, .methodref 1 41), (0, .nameAndType 24 42), (0, u "()B"), (2, u "append"), (0, u "(Ljava/lang/String;)Ljava/lang/AbstractStringBuilder;"), (1, .class_ 49), (0, u "java/lang/CharSequence"), (19, u "(Ljava/lang/String;)V"), (5, u "maybeLatin1"), (3, .fieldref 10 80), (0, .nameAndType 81 82), (0, u "count"), (0, u "I"), (2, u "isLatin1"), (0, u "()Z"), (13, .methodref 10 101), (0, .nameAndType 102 103), (0, u "ensureCapacityInternal"), (0, u "(I)V"), (104, .methodref 10 209), (0, .nameAndType 210 211), (0, u "putStringAt"), (0, u "(ILjava/lang/String;)V"), (5, u "inflateIfNeededFor"), (2, .nameAndType 221 222), (0, u "getBytes"), (0, u "([BIB)V"), (174, .methodref 10 398), (0, .nameAndType 217 69), (0, .methodref 1 220), (3, u "()[B"), (40, .class_ 445), (0, u "java/lang/Appendable"), (106, u "getValue")] 56

def k11m0 : Method := { name := "<init>", desc := "()V", sig := { parameters := [], returnType := none }, accessFlags := 0, code := none }
def k11c1 : Code := { maxStack := 2, maxLocals := 2, code := jdk_68_method_2_code, exceptionTable := #[], attributes := #[] }
def k11m1 : Method := { name := "<init>", desc := "(I)V", sig := { parameters := [.int], returnType := none }, accessFlags := 0, code := some k11c1 }
def k11c2 : Code := { maxStack := 1, maxLocals := 1, code := jdk_68_method_6_code, exceptionTable := #[], attributes := #[] }
def k11m2 : Method := { name := "length", desc := "()I", sig := { parameters := [], returnType := some .int }, accessFlags := 1, code := some k11c2 }
def k11c3 : Code := { maxStack := 4, maxLocals := 3, code := jdk_68_method_9_code, exceptionTable := #[], attributes := #[] }
def k11m3 : Method := { name := "ensureCapacityInternal", desc := "(I)V", sig := { parameters := [.int], returnType := none }, accessFlags := 2, code := some k11c3 }
def k11c4 : Code := { maxStack := 3, maxLocals := 3, code := jdk_68_method_22_code, exceptionTable := #[], attributes := #[] }
def k11m4 : Method := { name := "append", desc := "(Ljava/lang/String;)Ljava/lang/AbstractStringBuilder;", sig := { parameters := [(.object "java/lang/String")], returnType := some (.object "java/lang/AbstractStringBuilder") }, accessFlags := 1, code := some k11c4 }
def k11c5 : Code := { maxStack := 1, maxLocals := 1, code := jdk_68_method_64_code, exceptionTable := #[], attributes := #[] }
def k11m5 : Method := { name := "getValue", desc := "()[B", sig := { parameters := [], returnType := some (.array .byte) }, accessFlags := 16, code := some k11c5 }
def k11c6 : Code := { maxStack := 1, maxLocals := 1, code := jdk_68_method_68_code, exceptionTable := #[], attributes := #[] }
def k11m6 : Method := { name := "isLatin1", desc := "()Z", sig := { parameters := [], returnType := some .boolean }, accessFlags := 16, code := some k11c6 }
def k11c7 : Code := { maxStack := 2, maxLocals := 2, code := jdk_68_method_71_code, exceptionTable := #[], attributes := #[] }
def k11m7 : Method := { name := "inflateIfNeededFor", desc := "(Ljava/lang/String;)V", sig := { parameters := [(.object "java/lang/String")], returnType := none }, accessFlags := 2, code := some k11c7 }
def k11c8 : Code := { maxStack := 4, maxLocals := 3, code := jdk_68_method_73_code, exceptionTable := #[], attributes := #[] }
def k11m8 : Method := { name := "putStringAt", desc := "(ILjava/lang/String;)V", sig := { parameters := [.int, (.object "java/lang/String")], returnType := none }, accessFlags := 2, code := some k11c8 }
/-- java/lang/AbstractStringBuilder -/
def k11 : Class := { plain "java/lang/AbstractStringBuilder" (some 0) with
  accessFlags := 1056
  interfaces := #[10, 6]
  cf := some (fileOf pool11 10 #[] #[{ accessFlags := 0, nameIndex := 7, descriptorIndex := 8, attributes := #[] }, { accessFlags := 0, nameIndex := 7, descriptorIndex := 103, attributes := #[] }, { accessFlags := 1, nameIndex := 34, descriptorIndex := 35, attributes := #[] }, { accessFlags := 2, nameIndex := 102, descriptorIndex := 103, attributes := #[] }, { accessFlags := 1, nameIndex := 45, descriptorIndex := 46, attributes := #[] }, { accessFlags := 16, nameIndex := 552, descriptorIndex := 403, attributes := #[] }, { accessFlags := 16, nameIndex := 85, descriptorIndex := 86, attributes := #[] }, { accessFlags := 2, nameIndex := 217, descriptorIndex := 69, attributes := #[] }, { accessFlags := 2, nameIndex := 210, descriptorIndex := 211, attributes := #[] }] 1056 4 #[444, 48] #[{ accessFlags := 0, nameIndex := 17, descriptorIndex := 14, attributes := #[] }, { accessFlags := 0, nameIndex := 24, descriptorIndex := 25, attributes := #[] }, { accessFlags := 0, nameIndex := 75, descriptorIndex := 21, attributes := #[] }, { accessFlags := 0, nameIndex := 81, descriptorIndex := 82, attributes := #[] }, { accessFlags := 26, nameIndex := 13, descriptorIndex := 14, attributes := #[] }])
  fields := #[{ name := "value", type := (.array .byte), accessFlags := 0, slot := 0, constantValue := 0 }, { name := "coder", type := .byte, accessFlags := 0, slot := 1, constantValue := 0 }, { name := "maybeLatin1", type := .boolean, accessFlags := 0, slot := 2, constantValue := 0 }, { name := "count", type := .int, accessFlags := 0, slot := 3, constantValue := 0 }, { name := "EMPTYVALUE", type := (.array .byte), accessFlags := 26, slot := 0, constantValue := 0 }]
  methods := #[k11m0, k11m1, k11m2, k11m3, k11m4, k11m5, k11m6, k11m7, k11m8]
  instanceTypes := #[(.array .byte), .byte, .boolean, .int]
  staticTypes := #[(.array .byte)]
  resolved := Array.replicate 609 none
  statics := none }

def pool12 : Array CpInfo := pool [(1, .methodref 2 3), (0, .class_ 4), (0, .nameAndType 5 6), (0, u "java/lang/AbstractStringBuilder"), (0, u "<init>"), (0, u "(I)V"), (11, .class_ 20), (1, u "java/lang/String"), (3, .class_ 26), (1, u "java/lang/StringBuilder"), (0, u "append"), (0, u "(Ljava/lang/String;)Ljava/lang/StringBuilder;"), (0, .methodref 2 30), (0, .nameAndType 27 31), (0, u "(Ljava/lang/String;)Ljava/lang/AbstractStringBuilder;"), (105, .methodref 18 138), (0, .nameAndType 5 139), (0, u "(Ljava/lang/StringBuilder;)V"), (5, u "()V"), (10, u "()I"), (186, .methodref 2 344), (0, .nameAndType 345 156), (0, u "length"), (3, .class_ 350), (0, u "java/lang/Appendable"), (0, .class_ 352), (0, u "java/io/Serializable"), (0, .class_ 354), (0, u "java/lang/Comparable"), (0, .class_ 356), (0, u "java/lang/CharSequence"), (0, u "serialVersionUID"), (0, u "J"), (40, u "toString"), (0, u "()Ljava/lang/String;")] 21

def k12c0 : Code := { maxStack := 2, maxLocals := 1, code := jdk_67_method_1_code, exceptionTable := #[], attributes := #[] }
def k12m0 : Method := { name := "<init>", desc := "()V", sig := { parameters := [], returnType := none }, accessFlags := 1, code := some k12c0 }
def k12c1 : Code := { maxStack := 2, maxLocals := 2, code := jdk_67_method_7_code, exceptionTable := #[], attributes := #[] }
def k12m1 : Method := { name := "append", desc := "(Ljava/lang/String;)Ljava/lang/StringBuilder;", sig := { parameters := [(.object "java/lang/String")], returnType := some (.object "java/lang/StringBuilder") }, accessFlags := 1, code := some k12c1 }
def k12c2 : Code := { maxStack := 3, maxLocals := 1, code := jdk_67_method_42_code, exceptionTable := #[], attributes := #[] }
def k12m2 : Method := { name := "toString", desc := "()Ljava/lang/String;", sig := { parameters := [], returnType := some (.object "java/lang/String") }, accessFlags := 1, code := some k12c2 }
def k12c3 : Code := { maxStack := 1, maxLocals := 1, code := jdk_67_method_93_code, exceptionTable := #[], attributes := #[] }
def k12m3 : Method := { name := "length", desc := "()I", sig := { parameters := [], returnType := some .int }, accessFlags := 4161, code := some k12c3 }
/-- java/lang/StringBuilder -/
def k12 : Class := { plain "java/lang/StringBuilder" (some 11) with
  accessFlags := 49
  interfaces := #[10, 4, 5, 6]
  cf := some (fileOf pool12 24 #[] #[{ accessFlags := 1, nameIndex := 5, descriptorIndex := 145, attributes := #[] }, { accessFlags := 1, nameIndex := 27, descriptorIndex := 28, attributes := #[] }, { accessFlags := 1, nameIndex := 399, descriptorIndex := 400, attributes := #[] }, { accessFlags := 4161, nameIndex := 345, descriptorIndex := 156, attributes := #[] }] 49 2 #[349, 351, 353, 355] #[{ accessFlags := 24, nameIndex := 357, descriptorIndex := 358, attributes := #[] }])
  fields := #[{ name := "serialVersionUID", type := .long, accessFlags := 24, slot := 0, constantValue := 0 }]
  methods := #[k12m0, k12m1, k12m2, k12m3]
  instanceTypes := #[(.array .byte), .byte, .boolean, .int]
  staticTypes := #[.long]
  resolved := Array.replicate 422 none
  statics := none }

def pool13 : Array CpInfo := pool [(2, .class_ 4), (1, u "java/lang/Object"), (0, u "<init>"), (0, u "()V"), (1, .class_ 10), (1, u "java/lang/System"), (0, u "allowSecurityManager"), (0, u "I"), (16, u "cons"), (0, u "Ljava/io/Console;"), (77, .class_ 110), (1, u "java/lang/System$CallersHolder"), (43, u "initialErrStream"), (0, u "Ljava/io/PrintStream;"), (19, u "security"), (0, u "Ljava/lang/SecurityManager;"), (31, .class_ 209), (0, u "java/lang/System$1"), (7, u "props"), (0, u "Ljava/util/Properties;"), (2, u "lineSeparator"), (0, u "Ljava/lang/String;"), (96, .class_ 321), (1, u "java/lang/System$LoggerFinder"), (5, .class_ 328), (0, u "java/lang/System$Logger"), (67, u "err"), (2, u "out"), (91, u "notSupportedJnuEncoding"), (15, u "in"), (17, u "initialIn"), (0, u "Ljava/io/InputStream;"), (35, u "bootLayer"), (0, u "Ljava/lang/ModuleLayer;"), (99, .class_ 664), (0, u "java/lang/System$2"), (9, u "NEVER"), (2, u "MAYBE"), (49, u "arraycopy"), (0, u "(Ljava/lang/Object;ILjava/lang/Object;II)V"), (72, .class_ 802), (0, u "java/lang/System$Logger$Level")] 31

def k13m0 : Method := { name := "<init>", desc := "()V", sig := { parameters := [], returnType := none }, accessFlags := 2, code := none }
def k13m1 : Method := { name := "arraycopy", desc := "(Ljava/lang/Object;ILjava/lang/Object;II)V", sig := { parameters := [(.object "java/lang/Object"), .int, (.object "java/lang/Object"), .int, .int], returnType := none }, accessFlags := 265, code := none }
/-- java/lang/System -/
def k13 : Class := { plain "java/lang/System" (some 0) with
  accessFlags := 49
  interfaces := #[]
  cf := some (fileOf pool13 8 #[.nestMembers #[319, 327, 801, 108, 663, 208]] #[{ accessFlags := 2, nameIndex := 5, descriptorIndex := 6, attributes := #[] }, { accessFlags := 265, nameIndex := 727, descriptorIndex := 728, attributes := #[] }] 49 2 #[] #[{ accessFlags := 25, nameIndex := 507, descriptorIndex := 526, attributes := #[] }, { accessFlags := 25, nameIndex := 399, descriptorIndex := 155, attributes := #[] }, { accessFlags := 25, nameIndex := 396, descriptorIndex := 155, attributes := #[] }, { accessFlags := 10, nameIndex := 525, descriptorIndex := 526, attributes := #[] }, { accessFlags := 26, nameIndex := 674, descriptorIndex := 12, attributes := #[] }, { accessFlags := 26, nameIndex := 677, descriptorIndex := 12, attributes := #[] }, { accessFlags := 10, nameIndex := 11, descriptorIndex := 12, attributes := #[] }, { accessFlags := 74, nameIndex := 175, descriptorIndex := 176, attributes := #[] }, { accessFlags := 10, nameIndex := 491, descriptorIndex := 222, attributes := #[] }, { accessFlags := 74, nameIndex := 29, descriptorIndex := 30, attributes := #[] }, { accessFlags := 74, nameIndex := 154, descriptorIndex := 155, attributes := #[] }, { accessFlags := 10, nameIndex := 217, descriptorIndex := 218, attributes := #[] }, { accessFlags := 10, nameIndex := 221, descriptorIndex := 222, attributes := #[] }, { accessFlags := 8, nameIndex := 562, descriptorIndex := 563, attributes := #[] }])
  fields := #[{ name := "in", type := (.object "java/io/InputStream"), accessFlags := 25, slot := 0, constantValue := 0 }, { name := "out", type := (.object "java/io/PrintStream"), accessFlags := 25, slot := 1, constantValue := 0 }, { name := "err", type := (.object "java/io/PrintStream"), accessFlags := 25, slot := 2, constantValue := 0 }, { name := "initialIn", type := (.object "java/io/InputStream"), accessFlags := 10, slot := 3, constantValue := 0 }, { name := "NEVER", type := .int, accessFlags := 26, slot := 4, constantValue := 0 }, { name := "MAYBE", type := .int, accessFlags := 26, slot := 5, constantValue := 0 }, { name := "allowSecurityManager", type := .int, accessFlags := 10, slot := 6, constantValue := 0 }, { name := "security", type := (.object "java/lang/SecurityManager"), accessFlags := 74, slot := 7, constantValue := 0 }, { name := "notSupportedJnuEncoding", type := (.object "java/lang/String"), accessFlags := 10, slot := 8, constantValue := 0 }, { name := "cons", type := (.object "java/io/Console"), accessFlags := 74, slot := 9, constantValue := 0 }, { name := "initialErrStream", type := (.object "java/io/PrintStream"), accessFlags := 74, slot := 10, constantValue := 0 }, { name := "props", type := (.object "java/util/Properties"), accessFlags := 10, slot := 11, constantValue := 0 }, { name := "lineSeparator", type := (.object "java/lang/String"), accessFlags := 10, slot := 12, constantValue := 0 }, { name := "bootLayer", type := (.object "java/lang/ModuleLayer"), accessFlags := 8, slot := 13, constantValue := 0 }]
  methods := #[k13m0, k13m1]
  instanceTypes := #[]
  staticTypes := #[(.object "java/io/InputStream"), (.object "java/io/PrintStream"), (.object "java/io/PrintStream"), (.object "java/io/InputStream"), .int, .int, .int, (.object "java/lang/SecurityManager"), (.object "java/lang/String"), (.object "java/io/Console"), (.object "java/io/PrintStream"), (.object "java/util/Properties"), (.object "java/lang/String"), (.object "java/lang/ModuleLayer")]
  resolved := Array.replicate 834 none
  statics := none }

def pool14 : Array CpInfo := pool [(2, .class_ 4), (1, u "java/lang/Object"), (0, u "<init>"), (0, u "()V"), (7, .class_ 16), (1, u "java/util/Arrays"), (57, .class_ 76), (1, u "java/util/Arrays$NaturalOrder"), (36, .class_ 115), (1, u "java/util/Arrays$LegacyMergeSort"), (1, u "Z"), (21, u "copyOfRange"), (10, .methodref 151 152), (0, .class_ 153), (0, .nameAndType 154 155), (0, u "java/lang/System"), (0, u "arraycopy"), (0, u "(Ljava/lang/Object;ILjava/lang/Object;II)V"), (148, .methodref 305 306), (0, .class_ 307), (0, .nameAndType 308 309), (0, u "java/lang/Math"), (0, u "min"), (0, u "(II)I"), (29, .methodref 14 340), (0, .nameAndType 341 342), (0, u "copyOfRangeByte"), (0, u "([BII)[B"), (0, .methodref 14 344), (0, .nameAndType 345 346), (0, u "checkLength"), (0, u "(II)V"), (28, .class_ 376), (0, u "java/util/Arrays$ArrayList"), (68, u "$assertionsDisabled"), (269, u "MIN_ARRAY_SORT_GRAN"), (0, u "I"), (2, u "INSERTIONSORT_THRESHOLD"), (255, .class_ 976), (0, u "java/util/Arrays$ArrayItr")] 52

def k14m0 : Method := { name := "<init>", desc := "()V", sig := { parameters := [], returnType := none }, accessFlags := 2, code := none }
def k14c1 : Code := { maxStack := 4, maxLocals := 2, code := jdk_65_method_131_code, exceptionTable := #[], attributes := #[] }
def k14m1 : Method := { name := "checkLength", desc := "(II)V", sig := { parameters := [.int, .int], returnType := none }, accessFlags := 10, code := some k14c1 }
def k14c2 : Code := { maxStack := 3, maxLocals := 3, code := jdk_65_method_132_code, exceptionTable := #[], attributes := #[] }
def k14m2 : Method := { name := "copyOfRange", desc := "([BII)[B", sig := { parameters := [(.array .byte), .int, .int], returnType := some (.array .byte) }, accessFlags := 9, code := some k14c2 }
def k14c3 : Code := { maxStack := 6, maxLocals := 5, code := jdk_65_method_133_code, exceptionTable := #[], attributes := #[] }
def k14m3 : Method := { name := "copyOfRangeByte", desc := "([BII)[B", sig := { parameters := [(.array .byte), .int, .int], returnType := some (.array .byte) }, accessFlags := 10, code := some k14c3 }
/-- java/util/Arrays -/
def k14 : Class := { plain "java/util/Arrays" (some 0) with
  accessFlags := 49
  interfaces := #[]
  cf := some (fileOf pool14 14 #[.nestMembers #[975, 375, 113, 74]] #[{ accessFlags := 2, nameIndex := 5, descriptorIndex := 6, attributes := #[] }, { accessFlags := 10, nameIndex := 345, descriptorIndex := 346, attributes := #[] }, { accessFlags := 9, nameIndex := 139, descriptorIndex := 342, attributes := #[] }, { accessFlags := 10, nameIndex := 341, descriptorIndex := 342, attributes := #[] }] 49 2 #[] #[{ accessFlags := 26, nameIndex := 715, descriptorIndex := 716, attributes := #[] }, { accessFlags := 26, nameIndex := 719, descriptorIndex := 716, attributes := #[] }, { accessFlags := 4120, nameIndex := 445, descriptorIndex := 117, attributes := #[] }])
  fields := #[{ name := "MIN_ARRAY_SORT_GRAN", type := .int, accessFlags := 26, slot := 0, constantValue := 0 }, { name := "INSERTIONSORT_THRESHOLD", type := .int, accessFlags := 26, slot := 1, constantValue := 0 }, { name := "$assertionsDisabled", type := .boolean, accessFlags := 4120, slot := 2, constantValue := 0 }]
  methods := #[k14m0, k14m1, k14m2, k14m3]
  instanceTypes := #[]
  staticTypes := #[.int, .int, .boolean]
  resolved := Array.replicate 1029 none
  statics := none }

def pool15 : Array CpInfo := pool [(1, .class_ 2), (0, u "java/lang/Math"), (1, .class_ 6), (1, u "java/lang/Object"), (0, u "<init>"), (0, u "()V"), (89, .class_ 100), (1, u "java/lang/Math$RandomNumberGeneratorHolder"), (71, u "negativeZeroFloatBits"), (0, u "J"), (2, u "negativeZeroDoubleBits"), (24, u "min"), (43, u "$assertionsDisabled"), (0, u "Z"), (88, u "(II)I"), (2, u "twoToTheDoubleScaleDown"), (0, u "D"), (4, u "twoToTheDoubleScaleUp"), (9, u "E"), (3, u "PI"), (2, u "TAU"), (2, u "DEGREES_TO_RADIANS"), (0, u "RADIANS_TO_DEGREES")] 94

def k15m0 : Method := { name := "<init>", desc := "()V", sig := { parameters := [], returnType := none }, accessFlags := 2, code := none }
def k15c1 : Code := { maxStack := 2, maxLocals := 2, code := jdk_29_method_69_code, exceptionTable := #[], attributes := #[] }
def k15m1 : Method := { name := "min", desc := "(II)I", sig := { parameters := [.int, .int], returnType := some .int }, accessFlags := 9, code := some k15c1 }
/-- java/lang/Math -/
def k15 : Class := { plain "java/lang/Math" (some 0) with
  accessFlags := 49
  interfaces := #[]
  cf := some (fileOf pool15 1 #[.nestMembers #[98]] #[{ accessFlags := 2, nameIndex := 7, descriptorIndex := 8, attributes := #[] }, { accessFlags := 9, nameIndex := 201, descriptorIndex := 335, attributes := #[] }] 49 4 #[] #[{ accessFlags := 25, nameIndex := 354, descriptorIndex := 339, attributes := #[] }, { accessFlags := 25, nameIndex := 358, descriptorIndex := 339, attributes := #[] }, { accessFlags := 25, nameIndex := 361, descriptorIndex := 339, attributes := #[] }, { accessFlags := 26, nameIndex := 364, descriptorIndex := 339, attributes := #[] }, { accessFlags := 26, nameIndex := 365, descriptorIndex := 339, attributes := #[] }, { accessFlags := 26, nameIndex := 172, descriptorIndex := 173, attributes := #[] }, { accessFlags := 26, nameIndex := 176, descriptorIndex := 173, attributes := #[] }, { accessFlags := 8, nameIndex := 344, descriptorIndex := 339, attributes := #[] }, { accessFlags := 8, nameIndex := 338, descriptorIndex := 339, attributes := #[] }, { accessFlags := 4120, nameIndex := 245, descriptorIndex := 246, attributes := #[] }])
  fields := #[{ name := "E", type := .double, accessFlags := 25, slot := 0, constantValue := 0 }, { name := "PI", type := .double, accessFlags := 25, slot := 1, constantValue := 0 }, { name := "TAU", type := .double, accessFlags := 25, slot := 2, constantValue := 0 }, { name := "DEGREES_TO_RADIANS", type := .double, accessFlags := 26, slot := 3, constantValue := 0 }, { name := "RADIANS_TO_DEGREES", type := .double, accessFlags := 26, slot := 4, constantValue := 0 }, { name := "negativeZeroFloatBits", type := .long, accessFlags := 26, slot := 5, constantValue := 0 }, { name := "negativeZeroDoubleBits", type := .long, accessFlags := 26, slot := 6, constantValue := 0 }, { name := "twoToTheDoubleScaleUp", type := .double, accessFlags := 8, slot := 7, constantValue := 0 }, { name := "twoToTheDoubleScaleDown", type := .double, accessFlags := 8, slot := 8, constantValue := 0 }, { name := "$assertionsDisabled", type := .boolean, accessFlags := 4120, slot := 9, constantValue := 0 }]
  methods := #[k15m0, k15m1]
  instanceTypes := #[]
  staticTypes := #[.double, .double, .double, .double, .double, .long, .long, .double, .double, .boolean]
  resolved := Array.replicate 460 none
  statics := none }

def pool16 : Array CpInfo := pool [(1, .class_ 2), (0, u "java/lang/String"), (1, .class_ 6), (1, u "java/lang/Object"), (0, u "<init>"), (0, u "()V"), (0, .methodref 1 10), (0, .nameAndType 11 12), (0, u "checkIndex"), (0, u "(II)V"), (1, .class_ 16), (1, u "java/lang/StringLatin1"), (36, u "([BI)C"), (36, u "canEncode"), (14, u "(C)Z"), (15, u "$assertionsDisabled"), (0, u "Z"), (98, .class_ 223), (1, u "java/lang/StringLatin1$LinesSpliterator"), (28, u "charAt"), (127, u "toBytes"), (1, u "(C)[B"), (7, .class_ 391), (0, u "java/lang/StringLatin1$CharsSpliterator")] 3

def k16m0 : Method := { name := "<init>", desc := "()V", sig := { parameters := [], returnType := none }, accessFlags := 0, code := none }
def k16c1 : Code := { maxStack := 2, maxLocals := 2, code := jdk_43_method_2_code, exceptionTable := #[], attributes := #[] }
def k16m1 : Method := { name := "charAt", desc := "([BI)C", sig := { parameters := [(.array .byte), .int], returnType := some .char }, accessFlags := 9, code := some k16c1 }
def k16c2 : Code := { maxStack := 2, maxLocals := 1, code := jdk_43_method_3_code, exceptionTable := #[], attributes := #[] }
def k16m2 : Method := { name := "canEncode", desc := "(C)Z", sig := { parameters := [.char], returnType := some .boolean }, accessFlags := 9, code := some k16c2 }
def k16c3 : Code := { maxStack := 4, maxLocals := 1, code := jdk_43_method_46_code, exceptionTable := #[], attributes := #[] }
def k16m3 : Method := { name := "toBytes", desc := "(C)[B", sig := { parameters := [.char], returnType := some (.array .byte) }, accessFlags := 9, code := some k16c3 }
/-- java/lang/StringLatin1 -/
def k16 : Class := { plain "java/lang/StringLatin1" (some 0) with
  accessFlags := 48
  interfaces := #[]
  cf := some (fileOf pool16 14 #[.nestMembers #[390, 221]] #[{ accessFlags := 0, nameIndex := 7, descriptorIndex := 8, attributes := #[] }, { accessFlags := 9, nameIndex := 252, descriptorIndex := 53, attributes := #[] }, { accessFlags := 9, nameIndex := 90, descriptorIndex := 105, attributes := #[] }, { accessFlags := 9, nameIndex := 380, descriptorIndex := 382, attributes := #[] }] 48 4 #[] #[{ accessFlags := 4120, nameIndex := 121, descriptorIndex := 122, attributes := #[] }])
  fields := #[{ name := "$assertionsDisabled", type := .boolean, accessFlags := 4120, slot := 0, constantValue := 0 }]
  methods := #[k16m0, k16m1, k16m2, k16m3]
  instanceTypes := #[]
  staticTypes := #[.boolean]
  resolved := Array.replicate 395 none
  statics := none }

def pool17 : Array CpInfo := pool [(2, .class_ 4), (1, u "java/lang/Object"), (0, u "<init>"), (0, u "()V"), (17, .class_ 26), (1, u "jdk/internal/util/Preconditions"), (6, u "checkIndex"), (21, .class_ 56), (0, u "jdk/internal/util/Preconditions$4"), (57, .class_ 115), (0, u "jdk/internal/util/Preconditions$1"), (7, u "SIOOBE_FORMATTER"), (0, u "Ljava/util/function/BiFunction;"), (0, .class_ 126), (0, u "jdk/internal/util/Preconditions$2"), (3, u "AIOOBE_FORMATTER"), (0, .class_ 132), (0, u "jdk/internal/util/Preconditions$3"), (3, u "IOOBE_FORMATTER"), (41, u "(IILjava/util/function/BiFunction;)I")] 15

def k17m0 : Method := { name := "<init>", desc := "()V", sig := { parameters := [], returnType := none }, accessFlags := 1, code := none }
def k17c1 : Code := { maxStack := 3, maxLocals := 3, code := jdk_41_method_11_code, exceptionTable := #[], attributes := #[] }
def k17m1 : Method := { name := "checkIndex", desc := "(IILjava/util/function/BiFunction;)I", sig := { parameters := [.int, .int, (.object "java/util/function/BiFunction")], returnType := some .int }, accessFlags := 9, code := some k17c1 }
/-- jdk/internal/util/Preconditions -/
def k17 : Class := { plain "jdk/internal/util/Preconditions" (some 0) with
  accessFlags := 33
  interfaces := #[]
  cf := some (fileOf pool17 24 #[.nestMembers #[55, 131, 125, 114]] #[{ accessFlags := 1, nameIndex := 5, descriptorIndex := 6, attributes := #[] }, { accessFlags := 9, nameIndex := 33, descriptorIndex := 178, attributes := #[] }] 33 2 #[] #[{ accessFlags := 25, nameIndex := 123, descriptorIndex := 124, attributes := #[] }, { accessFlags := 25, nameIndex := 130, descriptorIndex := 124, attributes := #[] }, { accessFlags := 25, nameIndex := 136, descriptorIndex := 124, attributes := #[] }])
  fields := #[{ name := "SIOOBE_FORMATTER", type := (.object "java/util/function/BiFunction"), accessFlags := 25, slot := 0, constantValue := 0 }, { name := "AIOOBE_FORMATTER", type := (.object "java/util/function/BiFunction"), accessFlags := 25, slot := 1, constantValue := 0 }, { name := "IOOBE_FORMATTER", type := (.object "java/util/function/BiFunction"), accessFlags := 25, slot := 2, constantValue := 0 }]
  methods := #[k17m0, k17m1]
  instanceTypes := #[]
  staticTypes := #[(.object "java/util/function/BiFunction"), (.object "java/util/function/BiFunction"), (.object "java/util/function/BiFunction")]
  resolved := Array.replicate 194 none
  statics := some 1 }

def pool18 : Array CpInfo := pool [(6, .class_ 8), (1, u "java/lang/Object"), (0, u "<init>"), (0, u "()V"), (1, .class_ 14), (1, u "java/lang/StringUTF16"), (31, u "$assertionsDisabled"), (0, u "Z"), (13, u "HI_BYTE_SHIFT"), (0, u "I"), (2, u "LO_BYTE_SHIFT"), (49, .methodref 12 116), (0, .nameAndType 117 118), (0, u "compress"), (0, u "([CI[BII)I"), (3, u "([CII)[B"), (138, u "coderFromArrayLen"), (0, u "([BI)B"), (106, .class_ 371), (1, u "java/lang/StringUTF16$LinesSpliterator"), (58, u "MAX_LENGTH"), (196, .class_ 628), (0, u "java/lang/StringUTF16$CodePointsSpliterator"), (0, .class_ 630), (0, u "java/lang/StringUTF16$CharsSpliterator")] 4

def k18m0 : Method := { name := "<init>", desc := "()V", sig := { parameters := [], returnType := none }, accessFlags := 0, code := none }
def k18c1 : Code := { maxStack := 2, maxLocals := 2, code := jdk_52_method_15_code, exceptionTable := #[], attributes := #[] }
def k18m1 : Method := { name := "coderFromArrayLen", desc := "([BI)B", sig := { parameters := [(.array .byte), .int], returnType := some .byte }, accessFlags := 8, code := some k18c1 }
def k18c2 : Code := { maxStack := 5, maxLocals := 6, code := jdk_52_method_16_code, exceptionTable := #[], attributes := #[] }
def k18m2 : Method := { name := "compress", desc := "([CII)[B", sig := { parameters := [(.array .char), .int, .int], returnType := some (.array .byte) }, accessFlags := 9, code := some k18c2 }
def k18c3 : Code := { maxStack := 3, maxLocals := 7, code := jdk_52_method_21_code, exceptionTable := #[], attributes := #[] }
def k18m3 : Method := { name := "compress", desc := "([CI[BII)I", sig := { parameters := [(.array .char), .int, (.array .byte), .int, .int], returnType := some .int }, accessFlags := 9, code := some k18c3 }
/-- java/lang/StringUTF16 -/
def k18 : Class := { plain "java/lang/StringUTF16" (some 0) with
  accessFlags := 48
  interfaces := #[]
  cf := some (fileOf pool18 12 #[.nestMembers #[627, 629, 369]] #[{ accessFlags := 0, nameIndex := 9, descriptorIndex := 10, attributes := #[] }, { accessFlags := 8, nameIndex := 261, descriptorIndex := 262, attributes := #[] }, { accessFlags := 9, nameIndex := 117, descriptorIndex := 122, attributes := #[] }, { accessFlags := 9, nameIndex := 117, descriptorIndex := 118, attributes := #[] }] 48 6 #[] #[{ accessFlags := 26, nameIndex := 61, descriptorIndex := 62, attributes := #[] }, { accessFlags := 26, nameIndex := 65, descriptorIndex := 62, attributes := #[] }, { accessFlags := 24, nameIndex := 430, descriptorIndex := 62, attributes := #[] }, { accessFlags := 4120, nameIndex := 46, descriptorIndex := 47, attributes := #[] }])
  fields := #[{ name := "HI_BYTE_SHIFT", type := .int, accessFlags := 26, slot := 0, constantValue := 0 }, { name := "LO_BYTE_SHIFT", type := .int, accessFlags := 26, slot := 1, constantValue := 0 }, { name := "MAX_LENGTH", type := .int, accessFlags := 24, slot := 2, constantValue := 0 }, { name := "$assertionsDisabled", type := .boolean, accessFlags := 4120, slot := 3, constantValue := 0 }]
  methods := #[k18m0, k18m1, k18m2, k18m3]
  instanceTypes := #[]
  staticTypes := #[.int, .int, .int, .boolean]
  resolved := Array.replicate 635 none
  statics := none }

def pool19 : Array CpInfo := pool [(9, u "<init>"), (6, .class_ 18), (1, u "java/lang/Object"), (0, u "()V"), (1, .class_ 23), (1, u "jdk/internal/util/ArraysSupport"), (0, u "LOG2_ARRAY_LONG_INDEX_SCALE"), (0, u "I"), (2, u "U"), (0, u "Ljdk/internal/misc/Unsafe;"), (8, u "BIG_ENDIAN"), (0, u "Z"), (8, u "LOG2_BYTE_BIT_SIZE"), (4, u "LOG2_ARRAY_INT_INDEX_SCALE"), (54, u "JLA"), (0, u "Ljdk/internal/access/JavaLangAccess;"), (11, u "LOG2_ARRAY_BOOLEAN_INDEX_SCALE"), (9, u "LOG2_ARRAY_BYTE_INDEX_SCALE"), (5, u "LOG2_ARRAY_CHAR_INDEX_SCALE"), (5, u "LOG2_ARRAY_SHORT_INDEX_SCALE"), (18, u "LOG2_ARRAY_FLOAT_INDEX_SCALE"), (24, u "LOG2_ARRAY_DOUBLE_INDEX_SCALE"), (89, u "T_BOOLEAN"), (2, u "T_CHAR"), (1, u "T_FLOAT"), (1, u "T_DOUBLE"), (1, u "T_BYTE"), (1, u "T_SHORT"), (1, u "T_INT"), (1, u "T_LONG"), (1, u "SOFT_MAX_ARRAY_LENGTH")] 83

def k19m0 : Method := { name := "<init>", desc := "()V", sig := { parameters := [], returnType := none }, accessFlags := 2, code := none }
/-- jdk/internal/util/ArraysSupport -/
def k19 : Class := { plain "jdk/internal/util/ArraysSupport" (some 0) with
  accessFlags := 33
  interfaces := #[]
  cf := some (fileOf pool19 21 #[] #[{ accessFlags := 2, nameIndex := 9, descriptorIndex := 19, attributes := #[] }] 33 16 #[] #[{ accessFlags := 24, nameIndex := 28, descriptorIndex := 29, attributes := #[] }, { accessFlags := 26, nameIndex := 38, descriptorIndex := 39, attributes := #[] }, { accessFlags := 25, nameIndex := 121, descriptorIndex := 25, attributes := #[] }, { accessFlags := 25, nameIndex := 131, descriptorIndex := 25, attributes := #[] }, { accessFlags := 25, nameIndex := 137, descriptorIndex := 25, attributes := #[] }, { accessFlags := 25, nameIndex := 143, descriptorIndex := 25, attributes := #[] }, { accessFlags := 25, nameIndex := 53, descriptorIndex := 25, attributes := #[] }, { accessFlags := 25, nameIndex := 24, descriptorIndex := 25, attributes := #[] }, { accessFlags := 25, nameIndex := 162, descriptorIndex := 25, attributes := #[] }, { accessFlags := 25, nameIndex := 187, descriptorIndex := 25, attributes := #[] }, { accessFlags := 26, nameIndex := 48, descriptorIndex := 25, attributes := #[] }, { accessFlags := 25, nameIndex := 277, descriptorIndex := 25, attributes := #[] }, { accessFlags := 25, nameIndex := 280, descriptorIndex := 25, attributes := #[] }, { accessFlags := 25, nameIndex := 282, descriptorIndex := 25, attributes := #[] }, { accessFlags := 25, nameIndex := 284, descriptorIndex := 25, attributes := #[] }, { accessFlags := 25, nameIndex := 286, descriptorIndex := 25, attributes := #[] }, { accessFlags := 25, nameIndex := 288, descriptorIndex := 25, attributes := #[] }, { accessFlags := 25, nameIndex := 290, descriptorIndex := 25, attributes := #[] }, { accessFlags := 25, nameIndex := 292, descriptorIndex := 25, attributes := #[] }, { accessFlags := 26, nameIndex := 108, descriptorIndex := 109, attributes := #[] }, { accessFlags := 25, nameIndex := 294, descriptorIndex := 25, attributes := #[] }])
  fields := #[{ name := "U", type := (.object "jdk/internal/misc/Unsafe"), accessFlags := 24, slot := 0, constantValue := 0 }, { name := "BIG_ENDIAN", type := .boolean, accessFlags := 26, slot := 1, constantValue := 0 }, { name := "LOG2_ARRAY_BOOLEAN_INDEX_SCALE", type := .int, accessFlags := 25, slot := 2, constantValue := 0 }, { name := "LOG2_ARRAY_BYTE_INDEX_SCALE", type := .int, accessFlags := 25, slot := 3, constantValue := 0 }, { name := "LOG2_ARRAY_CHAR_INDEX_SCALE", type := .int, accessFlags := 25, slot := 4, constantValue := 0 }, { name := "LOG2_ARRAY_SHORT_INDEX_SCALE", type := .int, accessFlags := 25, slot := 5, constantValue := 0 }, { name := "LOG2_ARRAY_INT_INDEX_SCALE", type := .int, accessFlags := 25, slot := 6, constantValue := 0 }, { name := "LOG2_ARRAY_LONG_INDEX_SCALE", type := .int, accessFlags := 25, slot := 7, constantValue := 0 }, { name := "LOG2_ARRAY_FLOAT_INDEX_SCALE", type := .int, accessFlags := 25, slot := 8, constantValue := 0 }, { name := "LOG2_ARRAY_DOUBLE_INDEX_SCALE", type := .int, accessFlags := 25, slot := 9, constantValue := 0 }, { name := "LOG2_BYTE_BIT_SIZE", type := .int, accessFlags := 26, slot := 10, constantValue := 0 }, { name := "T_BOOLEAN", type := .int, accessFlags := 25, slot := 11, constantValue := 0 }, { name := "T_CHAR", type := .int, accessFlags := 25, slot := 12, constantValue := 0 }, { name := "T_FLOAT", type := .int, accessFlags := 25, slot := 13, constantValue := 0 }, { name := "T_DOUBLE", type := .int, accessFlags := 25, slot := 14, constantValue := 0 }, { name := "T_BYTE", type := .int, accessFlags := 25, slot := 15, constantValue := 0 }, { name := "T_SHORT", type := .int, accessFlags := 25, slot := 16, constantValue := 0 }, { name := "T_INT", type := .int, accessFlags := 25, slot := 17, constantValue := 0 }, { name := "T_LONG", type := .int, accessFlags := 25, slot := 18, constantValue := 0 }, { name := "JLA", type := (.object "jdk/internal/access/JavaLangAccess"), accessFlags := 26, slot := 19, constantValue := 0 }, { name := "SOFT_MAX_ARRAY_LENGTH", type := .int, accessFlags := 25, slot := 20, constantValue := 0 }]
  methods := #[k19m0]
  instanceTypes := #[]
  staticTypes := #[(.object "jdk/internal/misc/Unsafe"), .boolean, .int, .int, .int, .int, .int, .int, .int, .int, .int, .int, .int, .int, .int, .int, .int, .int, .int, (.object "jdk/internal/access/JavaLangAccess"), .int]
  resolved := Array.replicate 378 none
  statics := none }

def pool20 : Array CpInfo := pool [(1, u "java/lang/Cloneable"), (0, .class_ 1), (0, u "java/lang/Object"), (0, .class_ 3)] 3

/-- java/lang/Cloneable -/
def k20 : Class := { plain "java/lang/Cloneable" (some 0) with
  accessFlags := 1537
  interfaces := #[]
  cf := some (fileOf pool20 2 #[] #[] 1537 4 #[] #[])
  fields := #[]
  methods := #[]
  instanceTypes := #[]
  staticTypes := #[]
  resolved := Array.replicate 8 none
  statics := none }

/-- the primitive byte -/
def k21 : Class := { plain "byte" none with kind := .primitive 'B', accessFlags := 0x411 }
/-- [B -/
def k22 : Class := { plain "[B" (some 0) with kind := .array 21 .byte, interfaces := #[20, 4], accessFlags := 1041 }

/-- the primitive char -/
def k23 : Class := { plain "char" none with kind := .primitive 'C', accessFlags := 0x411 }
/-- [C -/
def k24 : Class := { plain "[C" (some 0) with kind := .array 23 .char, interfaces := #[20, 4], accessFlags := 1041 }

/-- the primitive int -/
def k25 : Class := { plain "int" none with kind := .primitive 'I', accessFlags := 0x411 }
/-- [I -/
def k26 : Class := { plain "[I" (some 0) with kind := .array 25 .int, interfaces := #[20, 4], accessFlags := 1041 }

def heap : Heap := #[{ cls := 9, slots := #[.long 0, .int 1, .null, .int 0, .null, .int 0, .int 0], vm := .statics 9 },
  { cls := 17, slots := #[.null, .null, .null], vm := .statics 17 }]
def classes : Array Class := #[k0, k1, k2, k3, k4, k5, k6, k7, k8, k9, k10, k11, k12, k13, k14, k15, k16, k17, k18, k19, k20, k21, k22, k23, k24, k25, k26]
def interned : List (Array UInt16 × Addr) := []
def slotsUsed : Nat := 10
def theMethod : MethodId := ⟨1, 3⟩
def args0 : Array Value := #[.int 5, .int 70000, .int 7]
def aboutOver (below : List Frame) : State where
  vm := { classes := classes, interned := interned.toArray }
  heap := heap
  slotsUsed := slotsUsed
  threads := #[{ frames := .invoking theMethod args0 :: below }]
def below0 : List Frame := [.native { method := ⟨0, 0⟩, args := #[] }]
def about1 : State := aboutOver below0
def p0 : Program := .bare "" "" ""
def e0 : Env := launch0.env 0 0 0
theorem w_frames : about1.frames = Frame.invoking theMethod args0 :: below0 := rfl
set_option maxRecDepth 65536 in
theorem w_args : argsFit about1.vm theMethod args0 = true := by decide +kernel
set_option maxRecDepth 65536 in
theorem w_heap : heapFits about1 = true := by decide +kernel
set_option maxRecDepth 65536 in
theorem w_runnable : about1.curStatus? = some .runnable := by decide +kernel
set_option maxRecDepth 65536 in
theorem w_alone : about1.alone = true := by decide +kernel
set_option maxRecDepth 65536 in
theorem w_named : about1.methodNamed? x = some theMethod := by decide +kernel
set_option maxRecDepth 65536 in
theorem w_hears : about1.hears theMethod below0 = true := by decide +kernel
set_option maxRecDepth 65536 in
theorem w_ripe : about1.ripe theMethod args0 below0 = true := by decide +kernel
theorem w_running : about1.status = .running := rfl
set_option maxRecDepth 65536 in
theorem w_room : about1.hasRoom e0.platform room_1 = true :=
  launch0.hasRoom_least _ room_1 (by decide +kernel) (by decide +kernel) (by decide +kernel) (by decide +kernel) (by decide +kernel) (by decide +kernel)
theorem allAtoms_all (ts : List Jvm.Cond) (a : Array Jvm.Value) (st : Jvm.State) : (allAtoms ts).before a st = ts.all (fun c => c.before a st) := by
  induction ts with
  | nil => rfl
  | cons c t ih =>
    show (Jvm.Cond.and c (allAtoms t)).before a st = _
    rw [Jvm.Cond.before_and, ih, List.all_cons]
def words1 : List Jvm.Cond := Jvm.Cond.code x code maxLocals ret :: tables_1
/-- a 'code' word, met by the world's own term for the bytes: nothing is compared byte by byte -/
theorem code_word {y : MethodName} {bytes : ByteArray} {mx : Nat} {rt : Option FieldType} {a : Array Value} {s : State} {m : MethodId} {meth : Method} {c : Code} (h1 : s.methodNamed? y = some m) (h2 : s.vm.method? m = some meth) (h3 : meth.code = some c) (h4 : c.code = bytes)
    (h5 : (c.maxLocals == mx && c.exceptionTable.isEmpty && decide (c.maxStack ≤ mostOperands) && decide (meth.sig.returnType = rt) && !meth.locks && decide (parseMethodDescriptor y.desc = some meth.sig)) = true) : (Jvm.Cond.code y bytes mx rt).before a s = true := by
  simp only [Bool.and_eq_true, beq_iff_eq, Bool.not_eq_true', decide_eq_true_eq] at h5
  obtain ⟨⟨⟨⟨⟨g1, g2⟩, g3⟩, g4⟩, g5⟩, g6⟩ := h5
  simp [Cond.before, Cond.holds, Cond.value, h1, h2, h3, h4, g1, g2, g3, g4, g5, g6]
def isCode : Jvm.Cond → Bool
  | .code _ _ _ _ => true
  | _ => false
theorem all_split {L : List Jvm.Cond} {P : Jvm.Cond → Bool} (h1 : L.all (fun c => isCode c || P c) = true) (h2 : ∀ c ∈ L.filter isCode, P c = true) : L.all P = true := by
  refine List.all_eq_true.mpr fun c hc => ?_
  have h := List.all_eq_true.mp h1 c hc
  rcases Bool.eq_false_or_eq_true (isCode c) with hi | hi
  · exact h2 c (List.mem_filter.mpr ⟨hc, hi⟩)
  · simpa [hi] using h
set_option maxRecDepth 65536 in
theorem w_c0 : (Jvm.Cond.code x code maxLocals ret).before args0 about1 = true := code_word (m := ⟨1, 3⟩) (meth := k1m3) (c := k1c3) (by decide +kernel) rfl rfl rfl (by decide +kernel)
set_option maxRecDepth 65536 in
theorem w_c1 : (Jvm.Cond.code ({ cls := "com/example/crosstie/crosstie/FailureLinePinLaw", name := "mk", desc := "(ICC)Ljava/lang/String;" } : Jvm.MethodName) method_2_code (3 : Nat) (Option.some (Jvm.ClassFile.FieldType.object "java/lang/String"))).before args0 about1 = true := code_word (m := ⟨1, 1⟩) (meth := k1m1) (c := k1c1) (by decide +kernel) rfl rfl rfl (by decide +kernel)
set_option maxRecDepth 65536 in
theorem w_c2 : (Jvm.Cond.code ({ cls := "com/example/crosstie/crosstie/Failure", name := "<init>", desc := "(Ljava/lang/String;Ljava/lang/String;Ljava/lang/String;)V" } : Jvm.MethodName) prog_4_method_1_code (4 : Nat) (Option.none : Option Jvm.ClassFile.FieldType)).before args0 about1 = true := code_word (m := ⟨3, 0⟩) (meth := k3m0) (c := k3c0) (by decide +kernel) rfl rfl rfl (by decide +kernel)
set_option maxRecDepth 65536 in
theorem w_c3 : (Jvm.Cond.code ({ cls := "java/lang/Record", name := "<init>", desc := "()V" } : Jvm.MethodName) jdk_30_method_1_code (1 : Nat) (Option.none : Option Jvm.ClassFile.FieldType)).before args0 about1 = true := code_word (m := ⟨2, 0⟩) (meth := k2m0) (c := k2c0) (by decide +kernel) rfl rfl rfl (by decide +kernel)
set_option maxRecDepth 65536 in
theorem w_c4 : (Jvm.Cond.code ({ cls := "java/lang/Object", name := "<init>", desc := "()V" } : Jvm.MethodName) object_method_1_code (1 : Nat) (Option.none : Option Jvm.ClassFile.FieldType)).before args0 about1 = true := code_word (m := ⟨0, 0⟩) (meth := k0m0) (c := k0c0) (by decide +kernel) rfl rfl rfl (by decide +kernel)
set_option maxRecDepth 65536 in
theorem w_c5 : (Jvm.Cond.code ({ cls := "com/example/crosstie/crosstie/Failure", name := "line", desc := "()Ljava/lang/String;" } : Jvm.MethodName) prog_4_method_2_code (1 : Nat) (Option.some (Jvm.ClassFile.FieldType.object "java/lang/String"))).before args0 about1 = true := code_word (m := ⟨3, 1⟩) (meth := k3m1) (c := k3c1) (by decide +kernel) rfl rfl rfl (by decide +kernel)
set_option maxRecDepth 65536 in
theorem w_c6 : (Jvm.Cond.code ({ cls := "java/lang/StringBuilder", name := "<init>", desc := "()V" } : Jvm.MethodName) jdk_67_method_1_code (1 : Nat) (Option.none : Option Jvm.ClassFile.FieldType)).before args0 about1 = true := code_word (m := ⟨12, 0⟩) (meth := k12m0) (c := k12c0) (by decide +kernel) rfl rfl rfl (by decide +kernel)
set_option maxRecDepth 65536 in
theorem w_c7 : (Jvm.Cond.code ({ cls := "java/lang/AbstractStringBuilder", name := "<init>", desc := "(I)V" } : Jvm.MethodName) jdk_68_method_2_code (2 : Nat) (Option.none : Option Jvm.ClassFile.FieldType)).before args0 about1 = true := code_word (m := ⟨11, 1⟩) (meth := k11m1) (c := k11c1) (by decide +kernel) rfl rfl rfl (by decide +kernel)
set_option maxRecDepth 65536 in
theorem w_c8 : (Jvm.Cond.code ({ cls := "java/lang/StringBuilder", name := "append", desc := "(Ljava/lang/String;)Ljava/lang/StringBuilder;" } : Jvm.MethodName) jdk_67_method_7_code (2 : Nat) (Option.some (Jvm.ClassFile.FieldType.object "java/lang/StringBuilder"))).before args0 about1 = true := code_word (m := ⟨12, 1⟩) (meth := k12m1) (c := k12c1) (by decide +kernel) rfl rfl rfl (by decide +kernel)
set_option maxRecDepth 65536 in
theorem w_c9 : (Jvm.Cond.code ({ cls := "java/lang/AbstractStringBuilder", name := "append", desc := "(Ljava/lang/String;)Ljava/lang/AbstractStringBuilder;" } : Jvm.MethodName) jdk_68_method_22_code (3 : Nat) (Option.some (Jvm.ClassFile.FieldType.object "java/lang/AbstractStringBuilder"))).before args0 about1 = true := code_word (m := ⟨11, 4⟩) (meth := k11m4) (c := k11c4) (by decide +kernel) rfl rfl rfl (by decide +kernel)
set_option maxRecDepth 65536 in
theorem w_c10 : (Jvm.Cond.code ({ cls := "java/lang/String", name := "length", desc := "()I" } : Jvm.MethodName) jdk_42_method_54_code (1 : Nat) (Option.some Jvm.ClassFile.FieldType.int)).before args0 about1 = true := code_word (m := ⟨9, 3⟩) (meth := k9m3) (c := k9c3) (by decide +kernel) rfl rfl rfl (by decide +kernel)
set_option maxRecDepth 65536 in
theorem w_c11 : (Jvm.Cond.code ({ cls := "java/lang/String", name := "coder", desc := "()B" } : Jvm.MethodName) jdk_42_method_152_code (1 : Nat) (Option.some Jvm.ClassFile.FieldType.byte)).before args0 about1 = true := code_word (m := ⟨9, 10⟩) (meth := k9m10) (c := k9c10) (by decide +kernel) rfl rfl rfl (by decide +kernel)
set_option maxRecDepth 65536 in
theorem w_c12 : (Jvm.Cond.code ({ cls := "java/lang/AbstractStringBuilder", name := "ensureCapacityInternal", desc := "(I)V" } : Jvm.MethodName) jdk_68_method_9_code (3 : Nat) (Option.none : Option Jvm.ClassFile.FieldType)).before args0 about1 = true := code_word (m := ⟨11, 3⟩) (meth := k11m3) (c := k11c3) (by decide +kernel) rfl rfl rfl (by decide +kernel)
set_option maxRecDepth 65536 in
theorem w_c13 : (Jvm.Cond.code ({ cls := "java/lang/AbstractStringBuilder", name := "putStringAt", desc := "(ILjava/lang/String;)V" } : Jvm.MethodName) jdk_68_method_73_code (3 : Nat) (Option.none : Option Jvm.ClassFile.FieldType)).before args0 about1 = true := code_word (m := ⟨11, 8⟩) (meth := k11m8) (c := k11c8) (by decide +kernel) rfl rfl rfl (by decide +kernel)
set_option maxRecDepth 65536 in
theorem w_c14 : (Jvm.Cond.code ({ cls := "java/lang/AbstractStringBuilder", name := "inflateIfNeededFor", desc := "(Ljava/lang/String;)V" } : Jvm.MethodName) jdk_68_method_71_code (2 : Nat) (Option.none : Option Jvm.ClassFile.FieldType)).before args0 about1 = true := code_word (m := ⟨11, 7⟩) (meth := k11m7) (c := k11c7) (by decide +kernel) rfl rfl rfl (by decide +kernel)
set_option maxRecDepth 65536 in
theorem w_c15 : (Jvm.Cond.code ({ cls := "java/lang/String", name := "getBytes", desc := "([BIB)V" } : Jvm.MethodName) jdk_42_method_147_code (4 : Nat) (Option.none : Option Jvm.ClassFile.FieldType)).before args0 about1 = true := code_word (m := ⟨9, 6⟩) (meth := k9m6) (c := k9c6) (by decide +kernel) rfl rfl rfl (by decide +kernel)
set_option maxRecDepth 65536 in
theorem w_c16 : (Jvm.Cond.code ({ cls := "java/lang/StringBuilder", name := "toString", desc := "()Ljava/lang/String;" } : Jvm.MethodName) jdk_67_method_42_code (1 : Nat) (Option.some (Jvm.ClassFile.FieldType.object "java/lang/String"))).before args0 about1 = true := code_word (m := ⟨12, 2⟩) (meth := k12m2) (c := k12c2) (by decide +kernel) rfl rfl rfl (by decide +kernel)
set_option maxRecDepth 65536 in
theorem w_c17 : (Jvm.Cond.code ({ cls := "java/lang/String", name := "<init>", desc := "(Ljava/lang/StringBuilder;)V" } : Jvm.MethodName) jdk_42_method_53_code (2 : Nat) (Option.none : Option Jvm.ClassFile.FieldType)).before args0 about1 = true := code_word (m := ⟨9, 2⟩) (meth := k9m2) (c := k9c2) (by decide +kernel) rfl rfl rfl (by decide +kernel)
set_option maxRecDepth 65536 in
theorem w_c18 : (Jvm.Cond.code ({ cls := "java/lang/String", name := "<init>", desc := "(Ljava/lang/AbstractStringBuilder;Ljava/lang/Void;)V" } : Jvm.MethodName) jdk_42_method_150_code (5 : Nat) (Option.none : Option Jvm.ClassFile.FieldType)).before args0 about1 = true := code_word (m := ⟨9, 8⟩) (meth := k9m8) (c := k9c8) (by decide +kernel) rfl rfl rfl (by decide +kernel)
set_option maxRecDepth 65536 in
theorem w_c19 : (Jvm.Cond.code ({ cls := "java/lang/AbstractStringBuilder", name := "getValue", desc := "()[B" } : Jvm.MethodName) jdk_68_method_64_code (1 : Nat) (Option.some (Jvm.ClassFile.FieldType.array Jvm.ClassFile.FieldType.byte))).before args0 about1 = true := code_word (m := ⟨11, 5⟩) (meth := k11m5) (c := k11c5) (by decide +kernel) rfl rfl rfl (by decide +kernel)
set_option maxRecDepth 65536 in
theorem w_c20 : (Jvm.Cond.code ({ cls := "java/lang/StringBuilder", name := "length", desc := "()I" } : Jvm.MethodName) jdk_67_method_93_code (1 : Nat) (Option.some Jvm.ClassFile.FieldType.int)).before args0 about1 = true := code_word (m := ⟨12, 3⟩) (meth := k12m3) (c := k12c3) (by decide +kernel) rfl rfl rfl (by decide +kernel)
set_option maxRecDepth 65536 in
theorem w_c21 : (Jvm.Cond.code ({ cls := "java/lang/AbstractStringBuilder", name := "length", desc := "()I" } : Jvm.MethodName) jdk_68_method_6_code (1 : Nat) (Option.some Jvm.ClassFile.FieldType.int)).before args0 about1 = true := code_word (m := ⟨11, 2⟩) (meth := k11m2) (c := k11c2) (by decide +kernel) rfl rfl rfl (by decide +kernel)
set_option maxRecDepth 65536 in
theorem w_c22 : (Jvm.Cond.code ({ cls := "java/lang/AbstractStringBuilder", name := "isLatin1", desc := "()Z" } : Jvm.MethodName) jdk_68_method_68_code (1 : Nat) (Option.some Jvm.ClassFile.FieldType.boolean)).before args0 about1 = true := code_word (m := ⟨11, 6⟩) (meth := k11m6) (c := k11c6) (by decide +kernel) rfl rfl rfl (by decide +kernel)
set_option maxRecDepth 65536 in
theorem w_c23 : (Jvm.Cond.code ({ cls := "java/util/Arrays", name := "copyOfRange", desc := "([BII)[B" } : Jvm.MethodName) jdk_65_method_132_code (3 : Nat) (Option.some (Jvm.ClassFile.FieldType.array Jvm.ClassFile.FieldType.byte))).before args0 about1 = true := code_word (m := ⟨14, 2⟩) (meth := k14m2) (c := k14c2) (by decide +kernel) rfl rfl rfl (by decide +kernel)
set_option maxRecDepth 65536 in
theorem w_c24 : (Jvm.Cond.code ({ cls := "java/util/Arrays", name := "copyOfRangeByte", desc := "([BII)[B" } : Jvm.MethodName) jdk_65_method_133_code (5 : Nat) (Option.some (Jvm.ClassFile.FieldType.array Jvm.ClassFile.FieldType.byte))).before args0 about1 = true := code_word (m := ⟨14, 3⟩) (meth := k14m3) (c := k14c3) (by decide +kernel) rfl rfl rfl (by decide +kernel)
set_option maxRecDepth 65536 in
theorem w_c25 : (Jvm.Cond.code ({ cls := "java/util/Arrays", name := "checkLength", desc := "(II)V" } : Jvm.MethodName) jdk_65_method_131_code (2 : Nat) (Option.none : Option Jvm.ClassFile.FieldType)).before args0 about1 = true := code_word (m := ⟨14, 1⟩) (meth := k14m1) (c := k14c1) (by decide +kernel) rfl rfl rfl (by decide +kernel)
set_option maxRecDepth 65536 in
theorem w_c26 : (Jvm.Cond.code ({ cls := "java/lang/Math", name := "min", desc := "(II)I" } : Jvm.MethodName) jdk_29_method_69_code (2 : Nat) (Option.some Jvm.ClassFile.FieldType.int)).before args0 about1 = true := code_word (m := ⟨15, 1⟩) (meth := k15m1) (c := k15c1) (by decide +kernel) rfl rfl rfl (by decide +kernel)
set_option maxRecDepth 65536 in
theorem w_c27 : (Jvm.Cond.code ({ cls := "com/example/crosstie/crosstie/FailureLinePinLaw", name := "has", desc := "(Ljava/lang/String;IICC)Z" } : Jvm.MethodName) method_3_code (5 : Nat) (Option.some Jvm.ClassFile.FieldType.boolean)).before args0 about1 = true := code_word (m := ⟨1, 2⟩) (meth := k1m2) (c := k1c2) (by decide +kernel) rfl rfl rfl (by decide +kernel)
set_option maxRecDepth 65536 in
theorem w_c28 : (Jvm.Cond.code ({ cls := "java/lang/String", name := "charAt", desc := "(I)C" } : Jvm.MethodName) jdk_42_method_56_code (2 : Nat) (Option.some Jvm.ClassFile.FieldType.char)).before args0 about1 = true := code_word (m := ⟨9, 4⟩) (meth := k9m4) (c := k9c4) (by decide +kernel) rfl rfl rfl (by decide +kernel)
set_option maxRecDepth 65536 in
theorem w_c29 : (Jvm.Cond.code ({ cls := "java/lang/String", name := "isLatin1", desc := "()Z" } : Jvm.MethodName) jdk_42_method_154_code (1 : Nat) (Option.some Jvm.ClassFile.FieldType.boolean)).before args0 about1 = true := code_word (m := ⟨9, 11⟩) (meth := k9m11) (c := k9c11) (by decide +kernel) rfl rfl rfl (by decide +kernel)
set_option maxRecDepth 65536 in
theorem w_c30 : (Jvm.Cond.code ({ cls := "java/lang/StringLatin1", name := "charAt", desc := "([BI)C" } : Jvm.MethodName) jdk_43_method_2_code (2 : Nat) (Option.some Jvm.ClassFile.FieldType.char)).before args0 about1 = true := code_word (m := ⟨16, 1⟩) (meth := k16m1) (c := k16c1) (by decide +kernel) rfl rfl rfl (by decide +kernel)
set_option maxRecDepth 65536 in
theorem w_c31 : (Jvm.Cond.code ({ cls := "java/lang/String", name := "checkIndex", desc := "(II)V" } : Jvm.MethodName) jdk_42_method_155_code (2 : Nat) (Option.none : Option Jvm.ClassFile.FieldType)).before args0 about1 = true := code_word (m := ⟨9, 12⟩) (meth := k9m12) (c := k9c12) (by decide +kernel) rfl rfl rfl (by decide +kernel)
set_option maxRecDepth 65536 in
theorem w_c32 : (Jvm.Cond.code ({ cls := "jdk/internal/util/Preconditions", name := "checkIndex", desc := "(IILjava/util/function/BiFunction;)I" } : Jvm.MethodName) jdk_41_method_11_code (3 : Nat) (Option.some Jvm.ClassFile.FieldType.int)).before args0 about1 = true := code_word (m := ⟨17, 1⟩) (meth := k17m1) (c := k17c1) (by decide +kernel) rfl rfl rfl (by decide +kernel)
set_option maxRecDepth 65536 in
theorem w_c33 : (Jvm.Cond.code ({ cls := "java/lang/String", name := "valueOf", desc := "(C)Ljava/lang/String;" } : Jvm.MethodName) jdk_42_method_139_code (1 : Nat) (Option.some (Jvm.ClassFile.FieldType.object "java/lang/String"))).before args0 about1 = true := code_word (m := ⟨9, 5⟩) (meth := k9m5) (c := k9c5) (by decide +kernel) rfl rfl rfl (by decide +kernel)
set_option maxRecDepth 65536 in
theorem w_c34 : (Jvm.Cond.code ({ cls := "java/lang/StringLatin1", name := "canEncode", desc := "(C)Z" } : Jvm.MethodName) jdk_43_method_3_code (1 : Nat) (Option.some Jvm.ClassFile.FieldType.boolean)).before args0 about1 = true := code_word (m := ⟨16, 2⟩) (meth := k16m2) (c := k16c2) (by decide +kernel) rfl rfl rfl (by decide +kernel)
set_option maxRecDepth 65536 in
theorem w_c35 : (Jvm.Cond.code ({ cls := "java/lang/StringLatin1", name := "toBytes", desc := "(C)[B" } : Jvm.MethodName) jdk_43_method_46_code (1 : Nat) (Option.some (Jvm.ClassFile.FieldType.array Jvm.ClassFile.FieldType.byte))).before args0 about1 = true := code_word (m := ⟨16, 3⟩) (meth := k16m3) (c := k16c3) (by decide +kernel) rfl rfl rfl (by decide +kernel)
set_option maxRecDepth 65536 in
theorem w_c36 : (Jvm.Cond.code ({ cls := "java/lang/String", name := "<init>", desc := "([BB)V" } : Jvm.MethodName) jdk_42_method_151_code (3 : Nat) (Option.none : Option Jvm.ClassFile.FieldType)).before args0 about1 = true := code_word (m := ⟨9, 9⟩) (meth := k9m9) (c := k9c9) (by decide +kernel) rfl rfl rfl (by decide +kernel)
set_option maxRecDepth 65536 in
theorem w_c37 : (Jvm.Cond.code ({ cls := "java/lang/String", name := "<init>", desc := "([C)V" } : Jvm.MethodName) jdk_42_method_3_code (2 : Nat) (Option.none : Option Jvm.ClassFile.FieldType)).before args0 about1 = true := code_word (m := ⟨9, 1⟩) (meth := k9m1) (c := k9c1) (by decide +kernel) rfl rfl rfl (by decide +kernel)
set_option maxRecDepth 65536 in
theorem w_c38 : (Jvm.Cond.code ({ cls := "java/lang/String", name := "<init>", desc := "([CIILjava/lang/Void;)V" } : Jvm.MethodName) jdk_42_method_149_code (6 : Nat) (Option.none : Option Jvm.ClassFile.FieldType)).before args0 about1 = true := code_word (m := ⟨9, 7⟩) (meth := k9m7) (c := k9c7) (by decide +kernel) rfl rfl rfl (by decide +kernel)
set_option maxRecDepth 65536 in
theorem w_c39 : (Jvm.Cond.code ({ cls := "java/lang/StringUTF16", name := "compress", desc := "([CII)[B" } : Jvm.MethodName) jdk_52_method_16_code (6 : Nat) (Option.some (Jvm.ClassFile.FieldType.array Jvm.ClassFile.FieldType.byte))).before args0 about1 = true := code_word (m := ⟨18, 2⟩) (meth := k18m2) (c := k18c2) (by decide +kernel) rfl rfl rfl (by decide +kernel)
set_option maxRecDepth 65536 in
theorem w_c40 : (Jvm.Cond.code ({ cls := "java/lang/StringUTF16", name := "compress", desc := "([CI[BII)I" } : Jvm.MethodName) jdk_52_method_21_code (7 : Nat) (Option.some Jvm.ClassFile.FieldType.int)).before args0 about1 = true := code_word (m := ⟨18, 3⟩) (meth := k18m3) (c := k18c3) (by decide +kernel) rfl rfl rfl (by decide +kernel)
set_option maxRecDepth 65536 in
theorem w_c41 : (Jvm.Cond.code ({ cls := "java/lang/StringUTF16", name := "coderFromArrayLen", desc := "([BI)B" } : Jvm.MethodName) jdk_52_method_15_code (2 : Nat) (Option.some Jvm.ClassFile.FieldType.byte)).before args0 about1 = true := code_word (m := ⟨18, 1⟩) (meth := k18m1) (c := k18c1) (by decide +kernel) rfl rfl rfl (by decide +kernel)
def codes1 : List Jvm.Cond := [Jvm.Cond.code x code maxLocals ret, Jvm.Cond.code ({ cls := "com/example/crosstie/crosstie/FailureLinePinLaw", name := "mk", desc := "(ICC)Ljava/lang/String;" } : Jvm.MethodName) method_2_code (3 : Nat) (Option.some (Jvm.ClassFile.FieldType.object "java/lang/String")), Jvm.Cond.code ({ cls := "com/example/crosstie/crosstie/Failure", name := "<init>", desc := "(Ljava/lang/String;Ljava/lang/String;Ljava/lang/String;)V" } : Jvm.MethodName) prog_4_method_1_code (4 : Nat) (Option.none : Option Jvm.ClassFile.FieldType), Jvm.Cond.code ({ cls := "java/lang/Record", name := "<init>", desc := "()V" } : Jvm.MethodName) jdk_30_method_1_code (1 : Nat) (Option.none : Option Jvm.ClassFile.FieldType), Jvm.Cond.code ({ cls := "java/lang/Object", name := "<init>", desc := "()V" } : Jvm.MethodName) object_method_1_code (1 : Nat) (Option.none : Option Jvm.ClassFile.FieldType), Jvm.Cond.code ({ cls := "com/example/crosstie/crosstie/Failure", name := "line", desc := "()Ljava/lang/String;" } : Jvm.MethodName) prog_4_method_2_code (1 : Nat) (Option.some (Jvm.ClassFile.FieldType.object "java/lang/String")), Jvm.Cond.code ({ cls := "java/lang/StringBuilder", name := "<init>", desc := "()V" } : Jvm.MethodName) jdk_67_method_1_code (1 : Nat) (Option.none : Option Jvm.ClassFile.FieldType), Jvm.Cond.code ({ cls := "java/lang/AbstractStringBuilder", name := "<init>", desc := "(I)V" } : Jvm.MethodName) jdk_68_method_2_code (2 : Nat) (Option.none : Option Jvm.ClassFile.FieldType), Jvm.Cond.code ({ cls := "java/lang/StringBuilder", name := "append", desc := "(Ljava/lang/String;)Ljava/lang/StringBuilder;" } : Jvm.MethodName) jdk_67_method_7_code (2 : Nat) (Option.some (Jvm.ClassFile.FieldType.object "java/lang/StringBuilder")), Jvm.Cond.code ({ cls := "java/lang/AbstractStringBuilder", name := "append", desc := "(Ljava/lang/String;)Ljava/lang/AbstractStringBuilder;" } : Jvm.MethodName) jdk_68_method_22_code (3 : Nat) (Option.some (Jvm.ClassFile.FieldType.object "java/lang/AbstractStringBuilder")), Jvm.Cond.code ({ cls := "java/lang/String", name := "length", desc := "()I" } : Jvm.MethodName) jdk_42_method_54_code (1 : Nat) (Option.some Jvm.ClassFile.FieldType.int), Jvm.Cond.code ({ cls := "java/lang/String", name := "coder", desc := "()B" } : Jvm.MethodName) jdk_42_method_152_code (1 : Nat) (Option.some Jvm.ClassFile.FieldType.byte), Jvm.Cond.code ({ cls := "java/lang/AbstractStringBuilder", name := "ensureCapacityInternal", desc := "(I)V" } : Jvm.MethodName) jdk_68_method_9_code (3 : Nat) (Option.none : Option Jvm.ClassFile.FieldType), Jvm.Cond.code ({ cls := "java/lang/AbstractStringBuilder", name := "putStringAt", desc := "(ILjava/lang/String;)V" } : Jvm.MethodName) jdk_68_method_73_code (3 : Nat) (Option.none : Option Jvm.ClassFile.FieldType), Jvm.Cond.code ({ cls := "java/lang/AbstractStringBuilder", name := "inflateIfNeededFor", desc := "(Ljava/lang/String;)V" } : Jvm.MethodName) jdk_68_method_71_code (2 : Nat) (Option.none : Option Jvm.ClassFile.FieldType), Jvm.Cond.code ({ cls := "java/lang/String", name := "getBytes", desc := "([BIB)V" } : Jvm.MethodName) jdk_42_method_147_code (4 : Nat) (Option.none : Option Jvm.ClassFile.FieldType), Jvm.Cond.code ({ cls := "java/lang/StringBuilder", name := "toString", desc := "()Ljava/lang/String;" } : Jvm.MethodName) jdk_67_method_42_code (1 : Nat) (Option.some (Jvm.ClassFile.FieldType.object "java/lang/String")), Jvm.Cond.code ({ cls := "java/lang/String", name := "<init>", desc := "(Ljava/lang/StringBuilder;)V" } : Jvm.MethodName) jdk_42_method_53_code (2 : Nat) (Option.none : Option Jvm.ClassFile.FieldType), Jvm.Cond.code ({ cls := "java/lang/String", name := "<init>", desc := "(Ljava/lang/AbstractStringBuilder;Ljava/lang/Void;)V" } : Jvm.MethodName) jdk_42_method_150_code (5 : Nat) (Option.none : Option Jvm.ClassFile.FieldType), Jvm.Cond.code ({ cls := "java/lang/AbstractStringBuilder", name := "getValue", desc := "()[B" } : Jvm.MethodName) jdk_68_method_64_code (1 : Nat) (Option.some (Jvm.ClassFile.FieldType.array Jvm.ClassFile.FieldType.byte)), Jvm.Cond.code ({ cls := "java/lang/StringBuilder", name := "length", desc := "()I" } : Jvm.MethodName) jdk_67_method_93_code (1 : Nat) (Option.some Jvm.ClassFile.FieldType.int), Jvm.Cond.code ({ cls := "java/lang/AbstractStringBuilder", name := "length", desc := "()I" } : Jvm.MethodName) jdk_68_method_6_code (1 : Nat) (Option.some Jvm.ClassFile.FieldType.int), Jvm.Cond.code ({ cls := "java/lang/AbstractStringBuilder", name := "isLatin1", desc := "()Z" } : Jvm.MethodName) jdk_68_method_68_code (1 : Nat) (Option.some Jvm.ClassFile.FieldType.boolean), Jvm.Cond.code ({ cls := "java/util/Arrays", name := "copyOfRange", desc := "([BII)[B" } : Jvm.MethodName) jdk_65_method_132_code (3 : Nat) (Option.some (Jvm.ClassFile.FieldType.array Jvm.ClassFile.FieldType.byte)), Jvm.Cond.code ({ cls := "java/util/Arrays", name := "copyOfRangeByte", desc := "([BII)[B" } : Jvm.MethodName) jdk_65_method_133_code (5 : Nat) (Option.some (Jvm.ClassFile.FieldType.array Jvm.ClassFile.FieldType.byte)), Jvm.Cond.code ({ cls := "java/util/Arrays", name := "checkLength", desc := "(II)V" } : Jvm.MethodName) jdk_65_method_131_code (2 : Nat) (Option.none : Option Jvm.ClassFile.FieldType), Jvm.Cond.code ({ cls := "java/lang/Math", name := "min", desc := "(II)I" } : Jvm.MethodName) jdk_29_method_69_code (2 : Nat) (Option.some Jvm.ClassFile.FieldType.int), Jvm.Cond.code ({ cls := "com/example/crosstie/crosstie/FailureLinePinLaw", name := "has", desc := "(Ljava/lang/String;IICC)Z" } : Jvm.MethodName) method_3_code (5 : Nat) (Option.some Jvm.ClassFile.FieldType.boolean), Jvm.Cond.code ({ cls := "java/lang/String", name := "charAt", desc := "(I)C" } : Jvm.MethodName) jdk_42_method_56_code (2 : Nat) (Option.some Jvm.ClassFile.FieldType.char), Jvm.Cond.code ({ cls := "java/lang/String", name := "isLatin1", desc := "()Z" } : Jvm.MethodName) jdk_42_method_154_code (1 : Nat) (Option.some Jvm.ClassFile.FieldType.boolean), Jvm.Cond.code ({ cls := "java/lang/StringLatin1", name := "charAt", desc := "([BI)C" } : Jvm.MethodName) jdk_43_method_2_code (2 : Nat) (Option.some Jvm.ClassFile.FieldType.char), Jvm.Cond.code ({ cls := "java/lang/String", name := "checkIndex", desc := "(II)V" } : Jvm.MethodName) jdk_42_method_155_code (2 : Nat) (Option.none : Option Jvm.ClassFile.FieldType), Jvm.Cond.code ({ cls := "jdk/internal/util/Preconditions", name := "checkIndex", desc := "(IILjava/util/function/BiFunction;)I" } : Jvm.MethodName) jdk_41_method_11_code (3 : Nat) (Option.some Jvm.ClassFile.FieldType.int), Jvm.Cond.code ({ cls := "java/lang/String", name := "valueOf", desc := "(C)Ljava/lang/String;" } : Jvm.MethodName) jdk_42_method_139_code (1 : Nat) (Option.some (Jvm.ClassFile.FieldType.object "java/lang/String")), Jvm.Cond.code ({ cls := "java/lang/StringLatin1", name := "canEncode", desc := "(C)Z" } : Jvm.MethodName) jdk_43_method_3_code (1 : Nat) (Option.some Jvm.ClassFile.FieldType.boolean), Jvm.Cond.code ({ cls := "java/lang/StringLatin1", name := "toBytes", desc := "(C)[B" } : Jvm.MethodName) jdk_43_method_46_code (1 : Nat) (Option.some (Jvm.ClassFile.FieldType.array Jvm.ClassFile.FieldType.byte)), Jvm.Cond.code ({ cls := "java/lang/String", name := "<init>", desc := "([BB)V" } : Jvm.MethodName) jdk_42_method_151_code (3 : Nat) (Option.none : Option Jvm.ClassFile.FieldType), Jvm.Cond.code ({ cls := "java/lang/String", name := "<init>", desc := "([C)V" } : Jvm.MethodName) jdk_42_method_3_code (2 : Nat) (Option.none : Option Jvm.ClassFile.FieldType), Jvm.Cond.code ({ cls := "java/lang/String", name := "<init>", desc := "([CIILjava/lang/Void;)V" } : Jvm.MethodName) jdk_42_method_149_code (6 : Nat) (Option.none : Option Jvm.ClassFile.FieldType), Jvm.Cond.code ({ cls := "java/lang/StringUTF16", name := "compress", desc := "([CII)[B" } : Jvm.MethodName) jdk_52_method_16_code (6 : Nat) (Option.some (Jvm.ClassFile.FieldType.array Jvm.ClassFile.FieldType.byte)), Jvm.Cond.code ({ cls := "java/lang/StringUTF16", name := "compress", desc := "([CI[BII)I" } : Jvm.MethodName) jdk_52_method_21_code (7 : Nat) (Option.some Jvm.ClassFile.FieldType.int), Jvm.Cond.code ({ cls := "java/lang/StringUTF16", name := "coderFromArrayLen", desc := "([BI)B" } : Jvm.MethodName) jdk_52_method_15_code (2 : Nat) (Option.some Jvm.ClassFile.FieldType.byte)]
set_option maxRecDepth 65536 in
theorem codes_eq : words1.filter isCode = codes1 := rfl
theorem w_codes : ∀ c ∈ words1.filter isCode, c.before args0 about1 = true := by
  rw [codes_eq]
  intro c hc
  simp only [codes1, List.mem_cons, List.not_mem_nil, or_false] at hc
  rcases hc with rfl | rfl | rfl | rfl | rfl | rfl | rfl | rfl | rfl | rfl | rfl | rfl | rfl | rfl | rfl | rfl | rfl | rfl | rfl | rfl | rfl | rfl | rfl | rfl | rfl | rfl | rfl | rfl | rfl | rfl | rfl | rfl | rfl | rfl | rfl | rfl | rfl | rfl | rfl | rfl | rfl | rfl
  · exact w_c0
  · exact w_c1
  · exact w_c2
  · exact w_c3
  · exact w_c4
  · exact w_c5
  · exact w_c6
  · exact w_c7
  · exact w_c8
  · exact w_c9
  · exact w_c10
  · exact w_c11
  · exact w_c12
  · exact w_c13
  · exact w_c14
  · exact w_c15
  · exact w_c16
  · exact w_c17
  · exact w_c18
  · exact w_c19
  · exact w_c20
  · exact w_c21
  · exact w_c22
  · exact w_c23
  · exact w_c24
  · exact w_c25
  · exact w_c26
  · exact w_c27
  · exact w_c28
  · exact w_c29
  · exact w_c30
  · exact w_c31
  · exact w_c32
  · exact w_c33
  · exact w_c34
  · exact w_c35
  · exact w_c36
  · exact w_c37
  · exact w_c38
  · exact w_c39
  · exact w_c40
  · exact w_c41
set_option maxRecDepth 65536 in
theorem w_t1 : (words1.take 24).all (fun c => isCode c || c.before args0 about1) = true := by decide +kernel
set_option maxRecDepth 65536 in
theorem w_t2 : ((words1.drop 24).take 24).all (fun c => isCode c || c.before args0 about1) = true := by decide +kernel
set_option maxRecDepth 65536 in
theorem w_t3 : (((words1.drop 24).drop 24).take 24).all (fun c => isCode c || c.before args0 about1) = true := by decide +kernel
set_option maxRecDepth 65536 in
theorem w_t4 : ((((words1.drop 24).drop 24).drop 24).take 24).all (fun c => isCode c || c.before args0 about1) = true := by decide +kernel
set_option maxRecDepth 65536 in
theorem w_t5 : (((((words1.drop 24).drop 24).drop 24).drop 24).take 24).all (fun c => isCode c || c.before args0 about1) = true := by decide +kernel
set_option maxRecDepth 65536 in
theorem w_t6 : ((((((words1.drop 24).drop 24).drop 24).drop 24).drop 24).take 24).all (fun c => isCode c || c.before args0 about1) = true := by decide +kernel
set_option maxRecDepth 65536 in
theorem w_t7 : (((((((words1.drop 24).drop 24).drop 24).drop 24).drop 24).drop 24).take 24).all (fun c => isCode c || c.before args0 about1) = true := by decide +kernel
set_option maxRecDepth 65536 in
theorem w_t8 : ((((((((words1.drop 24).drop 24).drop 24).drop 24).drop 24).drop 24).drop 24).take 24).all (fun c => isCode c || c.before args0 about1) = true := by decide +kernel
set_option maxRecDepth 65536 in
theorem w_t9 : ((((((((words1.drop 24).drop 24).drop 24).drop 24).drop 24).drop 24).drop 24).drop 24).all (fun c => isCode c || c.before args0 about1) = true := by decide +kernel
theorem w_tables : (allAtoms (Jvm.Cond.code x code maxLocals ret :: tables_1)).before args0 about1 = true := by
  rw [allAtoms_all]
  show words1.all (fun c => c.before args0 about1) = true
  refine all_split ?_ w_codes
  rw [← List.take_append_drop 24 words1, List.all_append, w_t1, ← List.take_append_drop 24 (words1.drop 24), List.all_append, w_t2, ← List.take_append_drop 24 ((words1.drop 24).drop 24), List.all_append, w_t3, ← List.take_append_drop 24 (((words1.drop 24).drop 24).drop 24), List.all_append, w_t4, ← List.take_append_drop 24 ((((words1.drop 24).drop 24).drop 24).drop 24), List.all_append, w_t5, ← List.take_append_drop 24 (((((words1.drop 24).drop 24).drop 24).drop 24).drop 24), List.all_append, w_t6, ← List.take_append_drop 24 ((((((words1.drop 24).drop 24).drop 24).drop 24).drop 24).drop 24), List.all_append, w_t7, ← List.take_append_drop 24 (((((((words1.drop 24).drop 24).drop 24).drop 24).drop 24).drop 24).drop 24), List.all_append, w_t8, w_t9]
  rfl
set_option maxRecDepth 65536 in
theorem w_rest : rest_1_c.before args0 about1 = true := by decide +kernel
set_option maxRecDepth 65536 in
theorem w_case : (Jvm.Cond.and given_1 narrow_1).before args0 about1 = true := by decide +kernel
set_option maxRecDepth 65536 in
theorem w_consts : constsHeld consts_1 about1 := Jvm.Lit.constsHeldB_iff.mp (by decide +kernel)
theorem w_applies : (headSpec (Jvm.Cond.code x code maxLocals ret :: tables_1) room_1).applies x e0.platform about1 = true :=
  (Spec.applies_iff w_frames).mpr ⟨w_running, w_runnable, w_alone, w_named, w_hears, w_ripe, w_room, w_tables⟩
theorem atStart : AtStart classFile x code maxLocals ret World_1 tables_1 room_1 Calls_1 rest_1 Pre_1 launch0 p0 e0 about1 theMethod args0 below0 :=
  ⟨lists_1, trivial, launch0.admits_env _ _ _, launch0.least_env, fairChoices_fair.cas, fairChoices_fair.clock, w_frames, w_args, w_heap, w_applies, ⟨w_consts, trivial⟩, w_rest, w_case⟩
end start1
theorem witness_1 : WitnessClaimed_1 := ⟨start1.p0, start1.e0, start1.about1, start1.theMethod, start1.args0, start1.below0, start1.atStart⟩
end Jvm.Pilot.@@N@@
