import JvmDerived
import JvmDerived.Pilot.@@N@@Statement
import JvmDerived.Pilot.@@N@@Code
set_option linter.unusedVariables false
set_option linter.unusedSimpArgs false
/- laws to paste: Road.backV (cut by pick.py; bodies as the Statement names them) -/
namespace Jvm.Pilot.@@N@@
namespace StrChars
open Jvm Sem ClassFile Op Lib Jvm.Stand Jvm.Free.XT Jvm.Free.ALB Jvm.Free.JM Jvm.Free
open Jvm.Lib.Cold (StaticIs)
/-- a char array whose places are chars -/
def Ch (a : Addr) (A : Cell) (U : State) : Prop := Arr .char a A U ∧ Typed .char A
theorem Ch.mv {a : Addr} {A : Cell} {U U' : State} (h : Ch a A U) (hal : U.vm.Alike U'.vm) (hh : U'.heap = U.heap) : Ch a A U' := ⟨h.1.mv hal hh, h.2⟩
theorem Ch.keep {a : Addr} {A : Cell} {U U' : State} (h : Ch a A U) (hal : U.vm.Alike U'.vm) (hk : U'.heap[a]? = some A) : Ch a A U' := ⟨h.1.keep hal hk, h.2⟩
/-- what place i of a char[]'s cell holds -/
def cv (A : Cell) (i : Nat) : Int32 := match A.slots[i]? with | some (.int x) => x | _ => 0
theorem Ch.get {a : Addr} {A : Cell} {U : State} (h : Ch a A U) {i : Nat} (hi : i < A.slots.size) : A.slots[i]? = some (.int (cv A i)) := by
  have e := Array.getElem?_eq_getElem hi
  have f := h.2 i _ e
  unfold cv; rw [e]
  generalize A.slots[i] = v at f
  cases v <;> simp [fits] at f ⊢
/-- the byte that i2b leaves of a char -/
def lo8 (x : Int32) : Int32 := x.toInt8.toInt32
theorem fits_lo8 (y : Int32) : fits .byte (.int (lo8 y)) = true := by
  have h1 := y.toInt8.le_toInt
  have h2 := y.toInt8.toInt_lt
  simp only [lo8, fits, Bool.and_eq_true, decide_eq_true_eq, Int32.le_iff_toInt_le, Int8.toInt_toInt32, show (-128 : Int32).toInt = -128 from by decide, show (127 : Int32).toInt = 127 from by decide]
  omega
/-- A' is A but that each place j of lo .. hi - 1 holds f j -/
def Laid (A A' : Cell) (lo hi : Nat) (f : Nat → Value) : Prop := A'.cls = A.cls ∧ A'.vm = A.vm ∧ A'.slots.size = A.slots.size ∧ ∀ i, A'.slots[i]? = if lo ≤ i ∧ i < hi then some (f i) else A.slots[i]?
theorem Laid.zero (A : Cell) (lo : Nat) (f : Nat → Value) : Laid A A lo (lo + 0) f := ⟨rfl, rfl, rfl, fun i => by rw [if_neg (by omega)]⟩
theorem Laid.step {A Ak : Cell} {lo k : Nat} {f : Nat → Value} {v : Value} (h : Laid A Ak lo k f) (hlo : lo ≤ k) (hk : k < Ak.slots.size) (hv : v = f k) : Laid A (Ak.setSlot k v) lo (k + 1) f := by
  refine ⟨h.1, h.2.1, by simpa [Cell.setSlot] using h.2.2.1, fun i => ?_⟩
  by_cases e : k = i
  · subst e; rw [Cell.slots_setSlot_self v hk, if_pos (by omega), hv]
  · rw [Cell.slots_setSlot_ne v e, h.2.2.2 i]
    by_cases q : lo ≤ i ∧ i < k
    · rw [if_pos q, if_pos (by omega)]
    · rw [if_neg q, if_neg (by omega)]
def U16 : String := "java/lang/StringUTF16"
namespace Cmp5
def yN : MethodName := ⟨"java/lang/StringUTF16", "compress", "([CI[BII)I"⟩
abbrev yB : ByteArray := jdk_52_method_21_code
theorem d0 : decode yB 0 = .ok (.iconst 0, 1) := by decide +kernel
theorem d1 : decode yB 1 = .ok (.istore 5, 2) := by decide +kernel
theorem d3 : decode yB 3 = .ok (.iload 5, 2) := by decide +kernel
theorem d5 : decode yB 5 = .ok (.iload 4, 2) := by decide +kernel
theorem d7 : decode yB 7 = .ok (.if_icmp (.ge) 37, 3) := by decide +kernel
theorem d10 : decode yB 10 = .ok (.aload_n 0, 1) := by decide +kernel
theorem d11 : decode yB 11 = .ok (.iload_n 1, 1) := by decide +kernel
theorem d12 : decode yB 12 = .ok (.caload, 1) := by decide +kernel
theorem d13 : decode yB 13 = .ok (.istore 6, 2) := by decide +kernel
theorem d15 : decode yB 15 = .ok (.iload 6, 2) := by decide +kernel
theorem d17 : decode yB 17 = .ok (.sipush 255, 3) := by decide +kernel
theorem d20 : decode yB 20 = .ok (.if_icmp (.le) 6, 3) := by decide +kernel
theorem d26 : decode yB 26 = .ok (.aload_n 2, 1) := by decide +kernel
theorem d27 : decode yB 27 = .ok (.iload_n 3, 1) := by decide +kernel
theorem d28 : decode yB 28 = .ok (.iload 6, 2) := by decide +kernel
theorem d30 : decode yB 30 = .ok (.i2b, 1) := by decide +kernel
theorem d31 : decode yB 31 = .ok (.bastore, 1) := by decide +kernel
theorem d32 : decode yB 32 = .ok (.iinc 1 1, 3) := by decide +kernel
theorem d35 : decode yB 35 = .ok (.iinc 3 1, 3) := by decide +kernel
theorem d38 : decode yB 38 = .ok (.iinc 5 1, 3) := by decide +kernel
theorem d41 : decode yB 41 = .ok (.goto (-38), 3) := by decide +kernel
theorem d44 : decode yB 44 = .ok (.iload 4, 2) := by decide +kernel
theorem d46 : decode yB 46 = .ok (.ireturn, 1) := by decide +kernel
def site : List Cond := []
def tab : Cond := tabOf yN yB 7 (some .int) site
def P (b : Addr) (A : Cell) (d : Addr) (B : Cell) (o q len : Nat) (args : Array Value) (s : State) : Prop := args = #[.ref b, .int (Int32.ofNat o), .ref d, .int (Int32.ofNat q), .int (Int32.ofNat len)] ∧ Ch b A s ∧ Arr .byte d B s ∧ b ≠ d ∧ o + len ≤ A.slots.size ∧ q + len ≤ B.slots.size ∧ ∀ i, i < len → ¬ 255 < cv A (o + i)
def E (b : Addr) (A : Cell) (d : Addr) (B : Cell) (o q len : Nat) (r : Option Value) (s u : State) : Prop := r = some (.int (Int32.ofNat len)) ∧ ∃ B', Put d B' s u ∧ Laid B B' q (q + len) (fun j => Value.int (lo8 (cv A (o + (j - q)))))
/-- no char of the range above 255: len; the places written hold each char's low byte -/
theorem law (l : Launch) (b : Addr) (A : Cell) (d : Addr) (B : Cell) (o q len : Nat) : Law l yN 5 5 0 0 yB 7 (some .int) site (P b A d B o q len) (E b A d B o q len) (copyLocs d q len) 0 0 := by
  refine Law.of_walk (plainFor_of_name (by decide +kernel)) (by decide +kernel) (by decide +kernel) (by decide) (fun _ _ h => by rw [h.1]; rfl) (fun _ U U' hal hh h => ⟨h.1, h.2.1.mv hal hh, h.2.2.1.mv hal hh, h.2.2.2⟩) (fun r U U' V V' h1 hal h2 h => ⟨h.1, h.2.elim fun B' q => ⟨B', q.1.mv h1 h2, q.2⟩⟩) ?_
  intro p e s m args below meth c s₁ X0 hexec hbytes hml hret hlk hnm hown hh0 W hP
  obtain ⟨rfl, hA, hB, hne, l1, l2, hp⟩ := hP
  have c1 : Steps p.tables e below (s₁.setTop (entryFrame m #[.ref b, .int (Int32.ofNat o), .ref d, .int (Int32.ofNat q), .int (Int32.ofNat len)] 7)) (s₁.setTop (mkF m 0 #[.val (.ref b), .val (.int (Int32.ofNat o)), .val (.ref d), .val (.int (Int32.ofNat q)), .val (.int (Int32.ofNat len)), .unset, .unset] [])) := entry rfl
  have hA0 := hA.1.mv X0.warmed.alike hh0
  have hB0 := hB.mv X0.warmed.alike hh0
  have a31 := hA.1.2.2.2
  have c2 : Steps p.tables e below (s₁.setTop (entryFrame m #[.ref b, .int (Int32.ofNat o), .ref d, .int (Int32.ofNat q), .int (Int32.ofNat len)] 7)) (s₁.setTop (mkF m 3 #[.val (.ref b), .val (.int (Int32.ofNat o)), .val (.ref d), .val (.int (Int32.ofNat q)), .val (.int (Int32.ofNat len)), .val (.int 0), .unset] [])) := c1.trans (by
    refine iconstV X0.here hexec rfl 0 (hb hbytes d0) (by decide) ?_
    refine XS.istore X0.here hexec rfl (hb hbytes d1) rfl rfl ?_
    exact Steps.refl _)
  have loop : ∀ (r i : Nat), i + r = len → ∀ (z : Slot), (z = .unset ∨ ∃ w, z = .val w ∧ w.category = 1) → ∀ (Tl : State) (Bk : Cell), Stand p l e { frames := 0, locals := 0, cells := 0, slots := 0 } s m #[.ref b, .int (Int32.ofNat o), .ref d, .int (Int32.ofNat q), .int (Int32.ofNat len)] below meth c Tl ([] ++ copyLocs d q i) 0 0 → Put d Bk s₁ Tl → Laid B Bk q (q + i) (fun j => Value.int (lo8 (cv A (o + (j - q))))) →
      Steps p.tables e below (s₁.setTop (entryFrame m #[.ref b, .int (Int32.ofNat o), .ref d, .int (Int32.ofNat q), .int (Int32.ofNat len)] 7)) (Tl.setTop (mkF m 3 #[.val (.ref b), .val (.int (Int32.ofNat (o + i))), .val (.ref d), .val (.int (Int32.ofNat (q + i))), .val (.int (Int32.ofNat len)), .val (.int (Int32.ofNat i)), z] [])) → ∃ (T' : State) (B' : Cell) (z' : Slot), Stand p l e { frames := 0, locals := 0, cells := 0, slots := 0 } s m #[.ref b, .int (Int32.ofNat o), .ref d, .int (Int32.ofNat q), .int (Int32.ofNat len)] below meth c T' ([] ++ copyLocs d q len) 0 0 ∧ Put d B' s₁ T' ∧ Laid B B' q (q + len) (fun j => Value.int (lo8 (cv A (o + (j - q))))) ∧
      Steps p.tables e below (s₁.setTop (entryFrame m #[.ref b, .int (Int32.ofNat o), .ref d, .int (Int32.ofNat q), .int (Int32.ofNat len)] 7)) (T'.setTop (mkF m 3 #[.val (.ref b), .val (.int (Int32.ofNat (o + len))), .val (.ref d), .val (.int (Int32.ofNat (q + len))), .val (.int (Int32.ofNat len)), .val (.int (Int32.ofNat len)), z'] [])) := by
    intro r
    induction r with
    | zero =>
      intro i hi z hz Tl Bk Xl pl fl cl
      have hil : i = len := by omega
      rw [hil] at Xl fl cl
      exact ⟨Tl, Bk, z, Xl, pl, fl, cl⟩
    | succ r ih =>
      intro i hi z hz Tl Bk Xl pl fl cl
      have all := X0.warmed.alike.symm.trans Xl.warmed.alike
      have hAl := hA0.keep all (pl.other hne hA0.1)
      have hBk := hB0.like all pl.1 fl.1 fl.2.1 fl.2.2.1
      have hlt : q + i < Bk.slots.size := by rw [fl.2.2.1]; omega
      have c3 : Steps p.tables e below (s₁.setTop (entryFrame m #[.ref b, .int (Int32.ofNat o), .ref d, .int (Int32.ofNat q), .int (Int32.ofNat len)] 7)) (Tl.setTop (mkF m 12 #[.val (.ref b), .val (.int (Int32.ofNat (o + i))), .val (.ref d), .val (.int (Int32.ofNat (q + i))), .val (.int (Int32.ofNat len)), .val (.int (Int32.ofNat i)), z] [.int (Int32.ofNat (o + i)), .ref b])) := cl.trans (by
        refine XS.iload Xl.here hexec rfl (hb hbytes d3) rfl ?_
        refine XS.iload Xl.here hexec rfl (hb hbytes d5) rfl ?_
        refine XS.icmpNo Xl.here hexec rfl (hb hbytes d7) rfl (ii_ge_f (lt32 (by omega) (by omega))) ?_
        refine XS.aloadN Xl.here hexec rfl (hb hbytes d10) rfl rfl ?_
        refine XS.iloadN Xl.here hexec rfl (hb hbytes d11) rfl ?_
        exact Steps.refl _)
      have c4 : Steps p.tables e below (s₁.setTop (entryFrame m #[.ref b, .int (Int32.ofNat o), .ref d, .int (Int32.ofNat q), .int (Int32.ofNat len)] 7)) (Tl.setTop (mkF m 13 #[.val (.ref b), .val (.int (Int32.ofNat (o + i))), .val (.ref d), .val (.int (Int32.ofNat (q + i))), .val (.int (Int32.ofNat len)), .val (.int (Int32.ofNat i)), z] [.int (cv A (o + i))])) := c3.trans (by
        refine Xl.aget hexec hAl rfl (hA.get (i := o + i) (by omega)) rfl rfl (hb hbytes d12) ?_
        exact Steps.refl _)
      have c5 : Steps p.tables e below (s₁.setTop (entryFrame m #[.ref b, .int (Int32.ofNat o), .ref d, .int (Int32.ofNat q), .int (Int32.ofNat len)] 7)) (Tl.setTop (mkF m 15 #[.val (.ref b), .val (.int (Int32.ofNat (o + i))), .val (.ref d), .val (.int (Int32.ofNat (q + i))), .val (.int (Int32.ofNat len)), .val (.int (Int32.ofNat i)), .val (.int (cv A (o + i)))] [])) := c4.trans (by
        refine XS.istoreS Xl.here hexec rfl (hb hbytes d13) rfl rfl hz ?_
        exact Steps.refl _)
      have c6 : Steps p.tables e below (s₁.setTop (entryFrame m #[.ref b, .int (Int32.ofNat o), .ref d, .int (Int32.ofNat q), .int (Int32.ofNat len)] 7)) (Tl.setTop (mkF m 31 #[.val (.ref b), .val (.int (Int32.ofNat (o + i))), .val (.ref d), .val (.int (Int32.ofNat (q + i))), .val (.int (Int32.ofNat len)), .val (.int (Int32.ofNat i)), .val (.int (cv A (o + i)))] [.int (lo8 (cv A (o + i))), .int (Int32.ofNat (q + i)), .ref d])) := c5.trans (by
        refine XS.iload Xl.here hexec rfl (hb hbytes d15) rfl ?_
        refine sipushV Xl.here hexec rfl 255 (hb hbytes d17) (by decide) ?_
        refine XS.icmpYes Xl.here hexec rfl (pc0 := 20) rfl (hb hbytes d20) rfl (ii_le_t (hp i (by omega))) (by decide) rfl ?_
        refine XS.aloadN Xl.here hexec rfl (hb hbytes d26) rfl rfl ?_
        refine XS.iloadN Xl.here hexec rfl (hb hbytes d27) rfl ?_
        refine XS.iload Xl.here hexec rfl (hb hbytes d28) rfl ?_
        refine i2b Xl.here hexec rfl (hb hbytes d30) rfl ?_
        exact Steps.refl _)
      obtain ⟨T7, X7, p7, st7⟩ := Xl.aput hexec hBk rfl hlt rfl (fits_lo8 (cv A (o + i))) (g := (mkF m 31 #[.val (.ref b), .val (.int (Int32.ofNat (o + i))), .val (.ref d), .val (.int (Int32.ofNat (q + i))), .val (.int (Int32.ofNat len)), .val (.int (Int32.ofNat i)), .val (.int (cv A (o + i)))] [.int (lo8 (cv A (o + i))), .int (Int32.ofNat (q + i)), .ref d])) rfl (rest := []) rfl (hb hbytes d31)
      have c8 : Steps p.tables e below (s₁.setTop (entryFrame m #[.ref b, .int (Int32.ofNat o), .ref d, .int (Int32.ofNat q), .int (Int32.ofNat len)] 7)) (T7.setTop (mkF m 32 #[.val (.ref b), .val (.int (Int32.ofNat (o + i))), .val (.ref d), .val (.int (Int32.ofNat (q + i))), .val (.int (Int32.ofNat len)), .val (.int (Int32.ofNat i)), .val (.int (cv A (o + i)))] [])) := c6.trans (st7 _ (Steps.refl _))
      have c9 : Steps p.tables e below (s₁.setTop (entryFrame m #[.ref b, .int (Int32.ofNat o), .ref d, .int (Int32.ofNat q), .int (Int32.ofNat len)] 7)) (T7.setTop (mkF m 3 #[.val (.ref b), .val (.int (Int32.ofNat (o + i) + 1)), .val (.ref d), .val (.int (Int32.ofNat (q + i) + 1)), .val (.int (Int32.ofNat len)), .val (.int (Int32.ofNat i + 1)), .val (.int (cv A (o + i)))] [])) := c8.trans (by
        refine iincV X7.here hexec rfl 1 (hb hbytes d32) (by decide) rfl rfl ?_
        refine iincV X7.here hexec rfl 1 (hb hbytes d35) (by decide) rfl rfl ?_
        refine iincV X7.here hexec rfl 1 (hb hbytes d38) (by decide) rfl rfl ?_
        refine XS.goto X7.here hexec rfl (pc0 := 41) rfl (hb hbytes d41) (by decide) rfl ?_
        exact Steps.refl _)
      have c10 : Steps p.tables e below (s₁.setTop (entryFrame m #[.ref b, .int (Int32.ofNat o), .ref d, .int (Int32.ofNat q), .int (Int32.ofNat len)] 7)) (T7.setTop (mkF m 3 #[.val (.ref b), .val (.int (Int32.ofNat (o + (i + 1)))), .val (.ref d), .val (.int (Int32.ofNat (q + (i + 1)))), .val (.int (Int32.ofNat len)), .val (.int (Int32.ofNat (i + 1))), .val (.int (cv A (o + i)))] [])) := by
        have := c9
        rw [succ32, succ32, succ32] at this
        exact this
      exact ih (i + 1) (by omega) _ (Or.inr ⟨_, rfl, rfl⟩) T7 _ (by rw [copyLocs_step, ← List.append_assoc]; exact X7) (pl.trans p7) (fl.step (by omega) hlt (by simp)) c10
  obtain ⟨T9, B9, z9, X9, p9, f9, g9⟩ := loop len 0 (by omega) .unset (Or.inl rfl) s₁ B (by simpa [copyLocs] using X0) ⟨hB0.1, fun _ _ => rfl, rfl⟩ (Laid.zero _ _ _) c2
  have c11 : Steps p.tables e below (s₁.setTop (entryFrame m #[.ref b, .int (Int32.ofNat o), .ref d, .int (Int32.ofNat q), .int (Int32.ofNat len)] 7)) (T9.setTop (mkF m 46 #[.val (.ref b), .val (.int (Int32.ofNat (o + len))), .val (.ref d), .val (.int (Int32.ofNat (q + len))), .val (.int (Int32.ofNat len)), .val (.int (Int32.ofNat len)), z9] [.int (Int32.ofNat len)])) := g9.trans (by
    refine XS.iload X9.here hexec rfl (hb hbytes d3) rfl ?_
    refine XS.iload X9.here hexec rfl (hb hbytes d5) rfl ?_
    refine XS.icmpYes X9.here hexec rfl (pc0 := 7) rfl (hb hbytes d7) rfl (ii_ge_t (nlt32 (by omega) (Nat.le_refl _))) (by decide) rfl ?_
    refine XS.iload X9.here hexec rfl (hb hbytes d44) rfl ?_
    exact Steps.refl _)
  exact ⟨T9, some (.int (Int32.ofNat len)), _, _, _, X9, by simp, rfl, rfl, (fun h => by cases h), ⟨rfl, B9, p9.from hh0, f9⟩, fun fs hl => c11.trans (X9.ireturnOut hexec hret rfl (Or.inl rfl) (hb hbytes d46) hl)⟩
end Cmp5
namespace Cmp3
def yN : MethodName := ⟨"java/lang/StringUTF16", "compress", "([CII)[B"⟩
abbrev yB : ByteArray := jdk_52_method_16_code
theorem d0 : decode yB 0 = .ok (.iload_n 2, 1) := by decide +kernel
theorem d1 : decode yB 1 = .ok (.newarray .byte, 2) := by decide +kernel
theorem d3 : decode yB 3 = .ok (.astore_n 3, 1) := by decide +kernel
theorem d4 : decode yB 4 = .ok (.aload_n 0, 1) := by decide +kernel
theorem d5 : decode yB 5 = .ok (.iload_n 1, 1) := by decide +kernel
theorem d6 : decode yB 6 = .ok (.aload_n 3, 1) := by decide +kernel
theorem d7 : decode yB 7 = .ok (.iconst 0, 1) := by decide +kernel
theorem d8 : decode yB 8 = .ok (.iload_n 2, 1) := by decide +kernel
theorem d9 : decode yB 9 = .ok (.invokestatic 115, 3) := by decide +kernel
theorem d12 : decode yB 12 = .ok (.istore 4, 2) := by decide +kernel
theorem d14 : decode yB 14 = .ok (.iload 4, 2) := by decide +kernel
theorem d16 : decode yB 16 = .ok (.iload_n 2, 1) := by decide +kernel
theorem d17 : decode yB 17 = .ok (.if_icmp (.eq) 40, 3) := by decide +kernel
theorem d57 : decode yB 57 = .ok (.aload_n 3, 1) := by decide +kernel
theorem d58 : decode yB 58 = .ok (.areturn, 1) := by decide +kernel
def site : List Cond := [.arrayClass .byte, Cmp5.tab] ++ staticW U16 115 Cmp5.yN
def tab : Cond := tabOf yN yB 6 (some (.array .byte)) site
def P (b : Addr) (A : Cell) (o len : Nat) (args : Array Value) (s : State) : Prop := args = #[.ref b, .int (Int32.ofNat o), .int (Int32.ofNat len)] ∧ Ch b A s ∧ o + len ≤ A.slots.size ∧ len ≤ 536870912 ∧ ∀ i, i < len → ¬ 255 < cv A (o + i)
def E (b : Addr) (A : Cell) (o len : Nat) (r : Option Value) (s u : State) : Prop := NewArr .byte "[B" len (fun j => .int (lo8 (cv A (o + j)))) r s u ∧ u.heap.size = s.heap.size + 1
/-- no char of the range above 255: a new byte[] of their low bytes -/
theorem law (l : Launch) (b : Addr) (A : Cell) (o len : Nat) : Law l yN 3 3 1 18 yB 6 (some (.array .byte)) site (P b A o len) (E b A o len) [] 1 len := by
  refine Law.of_walk (plainFor_of_name (by decide +kernel)) (by decide +kernel) (by decide +kernel) (by decide) (fun _ _ h => by rw [h.1]; rfl) (fun _ U U' hal hh h => ⟨h.1, h.2.1.mv hal hh, h.2.2⟩) (fun r U U' V V' h1 hal h2 h => ⟨NewArr.mv r U U' V V' h1 hal h2 h.1, by rw [h1, h2]; exact h.2⟩) ?_
  intro p e s m args below meth c s₁ X0 hexec hbytes hml hret hlk hnm hown hh0 W hP
  obtain ⟨rfl, hA, l1, l2, hp⟩ := hP
  have a31 := hA.1.2.2.2
  have c1 : Steps p.tables e below (s₁.setTop (entryFrame m #[.ref b, .int (Int32.ofNat o), .int (Int32.ofNat len)] 6)) (s₁.setTop (mkF m 0 #[.val (.ref b), .val (.int (Int32.ofNat o)), .val (.int (Int32.ofNat len)), .unset, .unset, .unset] [])) := entry rfl
  have c2 : Steps p.tables e below (s₁.setTop (entryFrame m #[.ref b, .int (Int32.ofNat o), .int (Int32.ofNat len)] 6)) (s₁.setTop (mkF m 1 #[.val (.ref b), .val (.int (Int32.ofNat o)), .val (.int (Int32.ofNat len)), .unset, .unset, .unset] [.int (Int32.ofNat len)])) := c1.trans (by
    refine XS.iloadN X0.here hexec rfl (hb hbytes d0) rfl ?_
    exact Steps.refl _)
  obtain ⟨T3, B3, X3, ba3, bs3, bv3, bh3, bf3, st3⟩ := X0.anew hexec (atype := .byte) (wk W (.arrayClass .byte)) rfl (by show len * 1 ≤ _; omega) (by omega) (g := (mkF m 1 #[.val (.ref b), .val (.int (Int32.ofNat o)), .val (.int (Int32.ofNat len)), .unset, .unset, .unset] [.int (Int32.ofNat len)])) rfl (hb hbytes d1) (rest := []) rfl (Nat.le_refl _) (by show 0 + len ≤ len; omega)
  rw [hh0] at ba3 st3
  have kp3 : XT.Kept s T3 := (XT.Kept.of_eq hh0).push bh3
  have hA3 := hA.keep X3.warmed.alike (kp3 _ _ hA.1.1)
  have hne : b ≠ s.heap.size := hA.1.ne
  have c4 : Steps p.tables e below (s₁.setTop (entryFrame m #[.ref b, .int (Int32.ofNat o), .int (Int32.ofNat len)] 6)) (T3.setTop (mkF m 3 #[.val (.ref b), .val (.int (Int32.ofNat o)), .val (.int (Int32.ofNat len)), .unset, .unset, .unset] [.ref s.heap.size])) := c2.trans (st3 _ (Steps.refl _))
  have c5 : Steps p.tables e below (s₁.setTop (entryFrame m #[.ref b, .int (Int32.ofNat o), .int (Int32.ofNat len)] 6)) (T3.setTop (mkF m 9 #[.val (.ref b), .val (.int (Int32.ofNat o)), .val (.int (Int32.ofNat len)), .val (.ref s.heap.size), .unset, .unset] [.int (Int32.ofNat len), .int 0, .ref s.heap.size, .int (Int32.ofNat o), .ref b])) := c4.trans (by
    refine XS.astoreN X3.here hexec rfl (hb hbytes d3) rfl rfl rfl ?_
    refine XS.aloadN X3.here hexec rfl (hb hbytes d4) rfl rfl ?_
    refine XS.iloadN X3.here hexec rfl (hb hbytes d5) rfl ?_
    refine XS.aloadN X3.here hexec rfl (hb hbytes d6) rfl rfl ?_
    refine iconstV X3.here hexec rfl 0 (hb hbytes d7) (by decide) ?_
    refine XS.iloadN X3.here hexec rfl (hb hbytes d8) rfl ?_
    exact Steps.refl _)
  obtain ⟨v6, T6, X6, E6, g6⟩ := X3.callS hexec (Cmp5.law l b A s.heap.size B3 o 0 len) hown (wks W (staticW U16 115 Cmp5.yN)) (wk W Cmp5.tab) (W := 0) (Nat.le_of_ble_eq_true rfl) (Nat.le_of_ble_eq_true rfl) (Nat.le_refl _) (by show 0 + len + 0 ≤ len; omega) (g := (mkF m 9 #[.val (.ref b), .val (.int (Int32.ofNat o)), .val (.int (Int32.ofNat len)), .val (.ref s.heap.size), .unset, .unset] [.int (Int32.ofNat len), .int (Int32.ofNat 0), .ref s.heap.size, .int (Int32.ofNat o), .ref b])) rfl (by rw [hml]; rfl) c5 (argsL := [.ref b, .int (Int32.ofNat o), .ref s.heap.size, .int (Int32.ofNat 0), .int (Int32.ofNat len)]) (rest := []) rfl rfl (by show 2 * 0 + 0 ≤ _; decide) (hb hbytes d9) (⟨rfl, hA3, ba3, hne, l1, by rw [bs3]; simp, hp⟩)
  obtain ⟨rfl, B6, p6, f6⟩ := E6
  have c7 : Steps p.tables e below (s₁.setTop (entryFrame m #[.ref b, .int (Int32.ofNat o), .int (Int32.ofNat len)] 6)) (T6.setTop (mkF m 12 #[.val (.ref b), .val (.int (Int32.ofNat o)), .val (.int (Int32.ofNat len)), .val (.ref s.heap.size), .unset, .unset] [.int (Int32.ofNat len)])) := g6
  have c8 : Steps p.tables e below (s₁.setTop (entryFrame m #[.ref b, .int (Int32.ofNat o), .int (Int32.ofNat len)] 6)) (T6.setTop (mkF m 58 #[.val (.ref b), .val (.int (Int32.ofNat o)), .val (.int (Int32.ofNat len)), .val (.ref s.heap.size), .val (.int (Int32.ofNat len)), .unset] [.ref s.heap.size])) := c7.trans (by
    refine XS.istore X6.here hexec rfl (hb hbytes d12) rfl rfl ?_
    refine XS.iload X6.here hexec rfl (hb hbytes d14) rfl ?_
    refine XS.iloadN X6.here hexec rfl (hb hbytes d16) rfl ?_
    refine XS.icmpYes X6.here hexec rfl (pc0 := 17) rfl (hb hbytes d17) rfl (ii_eq_t rfl) (by decide) rfl ?_
    refine XS.aloadN X6.here hexec rfl (hb hbytes d57) rfl rfl ?_
    exact Steps.refl _)
  have X8 := X6.wide (L' := []) (cells' := 1) (slots' := len) (fun x hx hlt => by
    simp only [List.nil_append, copyLocs, List.mem_map, List.mem_range] at hx
    obtain ⟨i, -, rfl⟩ := hx
    exact absurd hlt (Nat.lt_irrefl _)) (Nat.le_refl _) (by omega)
  exact ⟨T6, some (.ref s.heap.size), _, _, _, X8, rfl, rfl, rfl, (fun h => by cases h), ⟨⟨rfl, B6, ba3.like (X3.warmed.alike.symm.trans X6.warmed.alike) p6.1 f6.1 f6.2.1 f6.2.2.1, f6.2.1.trans bv3, by rw [X6.warmed.alike.findClass, f6.1]; exact bf3, by rw [f6.2.2.1, bs3]; simp, fun j hj => by rw [f6.2.2.2 j, if_pos (by omega)]; rfl, kp3.put p6 (Nat.le_refl _)⟩, by rw [p6.2.2, bh3, hh0]; simp⟩, fun fs hl => c8.trans (X8.areturnOut hexec rfl hret rfl (hb hbytes d58) hl)⟩
end Cmp3
namespace CodL
def yN : MethodName := ⟨"java/lang/StringUTF16", "coderFromArrayLen", "([BI)B"⟩
abbrev yB : ByteArray := jdk_52_method_15_code
theorem d0 : decode yB 0 = .ok (.iload_n 1, 1) := by decide +kernel
theorem d1 : decode yB 1 = .ok (.aload_n 0, 1) := by decide +kernel
theorem d2 : decode yB 2 = .ok (.arraylength, 1) := by decide +kernel
theorem d3 : decode yB 3 = .ok (.isub, 1) := by decide +kernel
theorem d4 : decode yB 4 = .ok (.bipush 31, 2) := by decide +kernel
theorem d6 : decode yB 6 = .ok (.iushr, 1) := by decide +kernel
theorem d7 : decode yB 7 = .ok (.i2b, 1) := by decide +kernel
theorem d8 : decode yB 8 = .ok (.ireturn, 1) := by decide +kernel
def site : List Cond := []
def tab : Cond := tabOf yN yB 2 (some .byte) site
def P (d : Addr) (B : Cell) (args : Array Value) (s : State) : Prop := args = #[.ref d, .int (Int32.ofNat B.slots.size)] ∧ Arr .byte d B s
def E (r : Option Value) (s u : State) : Prop := XT.PureE (some (.int 0)) r s u
/-- an array as long as the number of chars: LATIN1 -/
theorem law (l : Launch) (d : Addr) (B : Cell) : Law l yN 2 2 0 0 yB 2 (some .byte) site (P d B) E [] 0 0 := by
  refine Law.of_walk (plainFor_of_name (by decide +kernel)) (by decide +kernel) (by decide +kernel) (by decide) (fun _ _ h => by rw [h.1]; rfl) (fun _ U U' hal hh h => ⟨h.1, h.2.mv hal hh⟩) (fun r U U' V V' h1 hal h2 h => XT.PureE.mv r U U' V V' h1 hal h2 h) ?_
  intro p e s m args below meth c s₁ X0 hexec hbytes hml hret hlk hnm hown hh0 W hP
  obtain ⟨rfl, hB⟩ := hP
  have hB0 := hB.mv X0.warmed.alike hh0
  have c1 : Steps p.tables e below (s₁.setTop (entryFrame m #[.ref d, .int (Int32.ofNat B.slots.size)] 2)) (s₁.setTop (mkF m 0 #[.val (.ref d), .val (.int (Int32.ofNat B.slots.size))] [])) := entry rfl
  have c2 : Steps p.tables e below (s₁.setTop (entryFrame m #[.ref d, .int (Int32.ofNat B.slots.size)] 2)) (s₁.setTop (mkF m 2 #[.val (.ref d), .val (.int (Int32.ofNat B.slots.size))] [.ref d, .int (Int32.ofNat B.slots.size)])) := c1.trans (by
    refine XS.iloadN X0.here hexec rfl (hb hbytes d0) rfl ?_
    refine XS.aloadN X0.here hexec rfl (hb hbytes d1) rfl rfl ?_
    exact Steps.refl _)
  have c3 : Steps p.tables e below (s₁.setTop (entryFrame m #[.ref d, .int (Int32.ofNat B.slots.size)] 2)) (s₁.setTop (mkF m 8 #[.val (.ref d), .val (.int (Int32.ofNat B.slots.size))] [.int (lo8 (ushr (Int32.ofNat B.slots.size - Int32.ofNat B.slots.size) 31))])) := c2.trans (by
    refine X0.alen hexec hB0 rfl rfl (hb hbytes d2) ?_
    refine XS.isub X0.here hexec rfl (hb hbytes d3) rfl ?_
    refine bipushV X0.here hexec rfl 31 (hb hbytes d4) (by decide) ?_
    refine iushr X0.here hexec rfl (hb hbytes d6) rfl ?_
    refine i2b X0.here hexec rfl (hb hbytes d7) rfl ?_
    exact Steps.refl _)
  have e0 : lo8 (ushr (Int32.ofNat B.slots.size - Int32.ofNat B.slots.size) 31) = 0 := by rw [Int32.sub_self]; decide
  rw [e0] at c3
  exact ⟨s₁, some (.int 0), _, _, _, X0, rfl, rfl, rfl, (fun h => by cases h), ⟨rfl, hh0⟩, fun fs hl => c3.trans (X0.ireturnOut hexec hret rfl (Or.inr (Or.inr (Or.inl rfl))) (hb hbytes d8) hl)⟩
end CodL
/-- the String at a is Latin-1 over a new byte[] (the heap's one new cell): the low bytes of the len chars of A from o on; every cell but a is kept -/
def Got (a : Addr) (D : Cell) (fV fC : Field) (A : Cell) (o len : Nat) (r : Option Value) (s u : State) : Prop := r = none ∧ ∃ D' V : Cell, Blank "java/lang/String" a D' u ∧ Same D D' [fV.slot, fC.slot] ∧ D'.slots[fV.slot]? = some (.ref s.heap.size) ∧ D'.slots[fC.slot]? = some (.int 0) ∧ Arr .byte s.heap.size V u ∧ V.vm = .none ∧ u.vm.findClass "[B" = some V.cls ∧ V.slots.size = len ∧ (∀ j, j < len → V.slots[j]? = some (.int (lo8 (cv A (o + j))))) ∧ (∀ (y : Addr) (c : Cell), y ≠ a → s.heap[y]? = some c → u.heap[y]? = some c) ∧ u.heap.size = s.heap.size + 1
theorem Got.mv {a : Addr} {D A : Cell} {fV fC : Field} {o len : Nat} : ∀ r (U U' V V' : State), U'.heap = U.heap → V.vm.Alike V'.vm → V'.heap = V.heap → Got a D fV fC A o len r U V → Got a D fV fC A o len r U' V' :=
  fun r U U' V V' h1 hal h2 ⟨e0, D', X, a1, a2, a3, a4, a5, a6, a7, a8, a9, a10, a11⟩ => ⟨e0, D', X, a1.mv hal h2, a2, by rw [h1]; exact a3, a4, by rw [h1]; exact a5.mv hal h2, a6, by rw [hal.findClass]; exact a7, a8, a9, by rw [h1, h2]; exact a10, by rw [h1, h2]; exact a11⟩
namespace New4
def yN : MethodName := ⟨"java/lang/String", "<init>", "([CIILjava/lang/Void;)V"⟩
abbrev yB : ByteArray := jdk_42_method_149_code
theorem d0 : decode yB 0 = .ok (.aload_n 0, 1) := by decide +kernel
theorem d1 : decode yB 1 = .ok (.invokespecial 1, 3) := by decide +kernel
theorem d4 : decode yB 4 = .ok (.iload_n 3, 1) := by decide +kernel
theorem d5 : decode yB 5 = .ok (.ifCond (.ne) 22, 3) := by decide +kernel
theorem d27 : decode yB 27 = .ok (.getstatic 38, 3) := by decide +kernel
theorem d30 : decode yB 30 = .ok (.ifCond (.eq) 28, 3) := by decide +kernel
theorem d33 : decode yB 33 = .ok (.aload_n 1, 1) := by decide +kernel
theorem d34 : decode yB 34 = .ok (.iload_n 2, 1) := by decide +kernel
theorem d35 : decode yB 35 = .ok (.iload_n 3, 1) := by decide +kernel
theorem d36 : decode yB 36 = .ok (.invokestatic 177, 3) := by decide +kernel
theorem d39 : decode yB 39 = .ok (.astore 5, 2) := by decide +kernel
theorem d41 : decode yB 41 = .ok (.aload_n 0, 1) := by decide +kernel
theorem d42 : decode yB 42 = .ok (.aload 5, 2) := by decide +kernel
theorem d44 : decode yB 44 = .ok (.iload_n 3, 1) := by decide +kernel
theorem d45 : decode yB 45 = .ok (.invokestatic 47, 3) := by decide +kernel
theorem d48 : decode yB 48 = .ok (.putfield 15, 3) := by decide +kernel
theorem d51 : decode yB 51 = .ok (.aload_n 0, 1) := by decide +kernel
theorem d52 : decode yB 52 = .ok (.aload 5, 2) := by decide +kernel
theorem d54 : decode yB 54 = .ok (.putfield 9, 3) := by decide +kernel
theorem d57 : decode yB 57 = .ok (.return_, 1) := by decide +kernel
def site : List Cond := [.fieldLink "java/lang/String" 38 "java/lang/String" "COMPACT_STRINGS" "Z", Cmp3.tab, CodL.tab, .laysFinal "java/lang/String" "java/lang/String" "value" "[B", .fieldLink "java/lang/String" 9 "java/lang/String" "value" "[B", .laysFinal "java/lang/String" "java/lang/String" "coder" "B", .fieldLink "java/lang/String" 15 "java/lang/String" "coder" "B"] ++ objW "java/lang/String" 1 ++ staticW "java/lang/String" 177 Cmp3.yN ++ staticW "java/lang/String" 47 CodL.yN
def tab : Cond := tabOf yN yB 6 none site
def P (a : Addr) (D : Cell) (fV fC : Field) (b : Addr) (A : Cell) (z : Int32) (o len : Nat) (args : Array Value) (s : State) : Prop := args = #[.ref a, .ref b, .int (Int32.ofNat o), .int (Int32.ofNat len), .null] ∧ Blank "java/lang/String" a D s ∧ Found "java/lang/String" "value" "[B" fV s ∧ Found "java/lang/String" "coder" "B" fC s ∧ Ch b A s ∧ StaticIs s "java/lang/String" "COMPACT_STRINGS" "Z" (.int z) ∧ ¬ z = 0 ∧ 0 < len ∧ o + len ≤ A.slots.size ∧ len ≤ 536870912 ∧ ∀ i, i < len → ¬ 255 < cv A (o + i)
def E (a : Addr) (D : Cell) (fV fC : Field) (A : Cell) (o len : Nat) (r : Option Value) (s u : State) : Prop := Got a D fV fC A o len r s u
/-- len > 0, no char of the range above 255: a Latin-1 String of their low bytes -/
theorem law (l : Launch) (a : Addr) (D : Cell) (fV fC : Field) (b : Addr) (A : Cell) (z : Int32) (o len : Nat) : Law l yN 5 4 2 35 yB 6 none site (P a D fV fC b A z o len) (E a D fV fC A o len) [⟨a, fC.slot⟩, ⟨a, fV.slot⟩] 1 len := by
  refine Law.of_walk (plainFor_of_name (by decide +kernel)) (by decide +kernel) (by decide +kernel) (by decide) (fun _ _ h => by rw [h.1]; rfl) (fun _ U U' hal hh h => ⟨h.1, h.2.1.mv hal hh, h.2.2.1.al hal, h.2.2.2.1.al hal, h.2.2.2.2.1.mv hal hh, h.2.2.2.2.2.1.there hal hh, h.2.2.2.2.2.2⟩) (fun r U U' V V' h1 hal h2 h => Got.mv r U U' V V' h1 hal h2 h) ?_
  intro p e s m args below meth c s₁ X0 hexec hbytes hml hret hlk hnm hown hh0 W hP
  obtain ⟨rfl, hB, f1, f2, hA, s1, hz, l0, l1, l2, hp⟩ := hP
  have a31 := hA.1.2.2.2
  have c1 : Steps p.tables e below (s₁.setTop (entryFrame m #[.ref a, .ref b, .int (Int32.ofNat o), .int (Int32.ofNat len), .null] 6)) (s₁.setTop (mkF m 0 #[.val (.ref a), .val (.ref b), .val (.int (Int32.ofNat o)), .val (.int (Int32.ofNat len)), .val .null, .unset] [])) := entry rfl
  have c2 : Steps p.tables e below (s₁.setTop (entryFrame m #[.ref a, .ref b, .int (Int32.ofNat o), .int (Int32.ofNat len), .null] 6)) (s₁.setTop (mkF m 1 #[.val (.ref a), .val (.ref b), .val (.int (Int32.ofNat o)), .val (.int (Int32.ofNat len)), .val .null, .unset] [.ref a])) := c1.trans (by
    refine XS.aloadN X0.here hexec rfl (hb hbytes d0) rfl rfl ?_
    exact Steps.refl _)
  obtain ⟨T3, X3, q3, st3⟩ := X0.oinit hexec hown (wks W (objW "java/lang/String" 1)) (g := (mkF m 1 #[.val (.ref a), .val (.ref b), .val (.int (Int32.ofNat o)), .val (.int (Int32.ofNat len)), .val .null, .unset] [.ref a])) rfl (by rw [hml]; rfl) (rest := []) rfl (hb hbytes d1) (W := 0) (by show 2 * 0 + 0 ≤ _; decide) (Nat.le_of_ble_eq_true rfl) (Nat.le_of_ble_eq_true rfl)
  have hh3 := q3.trans hh0
  have c4 : Steps p.tables e below (s₁.setTop (entryFrame m #[.ref a, .ref b, .int (Int32.ofNat o), .int (Int32.ofNat len), .null] 6)) (T3.setTop (mkF m 27 #[.val (.ref a), .val (.ref b), .val (.int (Int32.ofNat o)), .val (.int (Int32.ofNat len)), .val .null, .unset] [])) := (c2.trans (st3 _ (Steps.refl _))).trans (by
    refine XS.iloadN X3.here hexec rfl (hb hbytes d4) rfl ?_
    refine XS.ifYes X3.here hexec rfl (pc0 := 5) rfl (hb hbytes d5) rfl (i0_ne_t (nz32 (by omega) l0)) (by decide) rfl ?_
    exact Steps.refl _)
  obtain ⟨T5, X5, q5, st5⟩ := X3.sget hexec hown (wk W (.fieldLink "java/lang/String" 38 "java/lang/String" "COMPACT_STRINGS" "Z")) s1 (fun _ _ h => by rw [hh3]; exact h) (g := (mkF m 27 #[.val (.ref a), .val (.ref b), .val (.int (Int32.ofNat o)), .val (.int (Int32.ofNat len)), .val .null, .unset] [])) rfl (hb hbytes d27)
  have hh5 := q5.trans hh3
  have c6 : Steps p.tables e below (s₁.setTop (entryFrame m #[.ref a, .ref b, .int (Int32.ofNat o), .int (Int32.ofNat len), .null] 6)) (T5.setTop (mkF m 30 #[.val (.ref a), .val (.ref b), .val (.int (Int32.ofNat o)), .val (.int (Int32.ofNat len)), .val .null, .unset] [.int z])) := c4.trans (st5 _ (Steps.refl _))
  have c7 : Steps p.tables e below (s₁.setTop (entryFrame m #[.ref a, .ref b, .int (Int32.ofNat o), .int (Int32.ofNat len), .null] 6)) (T5.setTop (mkF m 36 #[.val (.ref a), .val (.ref b), .val (.int (Int32.ofNat o)), .val (.int (Int32.ofNat len)), .val .null, .unset] [.int (Int32.ofNat len), .int (Int32.ofNat o), .ref b])) := c6.trans (by
    refine XS.ifNo X5.here hexec rfl (hb hbytes d30) rfl (i0_eq_f hz) ?_
    refine XS.aloadN X5.here hexec rfl (hb hbytes d33) rfl rfl ?_
    refine XS.iloadN X5.here hexec rfl (hb hbytes d34) rfl ?_
    refine XS.iloadN X5.here hexec rfl (hb hbytes d35) rfl ?_
    exact Steps.refl _)
  obtain ⟨v8, T8, X8, E8, g8⟩ := X5.callS hexec (Cmp3.law l b A o len) hown (wks W (staticW "java/lang/String" 177 Cmp3.yN)) (wk W Cmp3.tab) (W := 0) (Nat.le_of_ble_eq_true rfl) (Nat.le_of_ble_eq_true rfl) (Nat.le_refl _) (by show 0 + len ≤ len; omega) (g := (mkF m 36 #[.val (.ref a), .val (.ref b), .val (.int (Int32.ofNat o)), .val (.int (Int32.ofNat len)), .val .null, .unset] [.int (Int32.ofNat len), .int (Int32.ofNat o), .ref b])) rfl (by rw [hml]; rfl) c7 (argsL := [.ref b, .int (Int32.ofNat o), .int (Int32.ofNat len)]) (rest := []) rfl rfl (by show 2 * 0 + 0 ≤ _; decide) (hb hbytes d36) (⟨rfl, hA.mv X5.warmed.alike hh5, l1, l2, hp⟩)
  obtain ⟨e8, z8⟩ := E8
  obtain ⟨rfl, N, n1, n2, n3, n4, n5, n6⟩ := NewArr.mv _ T5 s _ _ hh5.symm (Vm.Alike.refl _) rfl e8
  rw [hh5] at z8
  have hB1 := hB.keep X8.warmed.alike (n6 _ _ hB.1)
  have hne : s.heap.size ≠ a := (Nat.ne_of_lt (Array.getElem?_eq_some_iff.mp hB.1).1).symm
  have c9 : Steps p.tables e below (s₁.setTop (entryFrame m #[.ref a, .ref b, .int (Int32.ofNat o), .int (Int32.ofNat len), .null] 6)) (T8.setTop (mkF m 39 #[.val (.ref a), .val (.ref b), .val (.int (Int32.ofNat o)), .val (.int (Int32.ofNat len)), .val .null, .unset] [.ref s.heap.size])) := g8
  have c10 : Steps p.tables e below (s₁.setTop (entryFrame m #[.ref a, .ref b, .int (Int32.ofNat o), .int (Int32.ofNat len), .null] 6)) (T8.setTop (mkF m 45 #[.val (.ref a), .val (.ref b), .val (.int (Int32.ofNat o)), .val (.int (Int32.ofNat len)), .val .null, .val (.ref s.heap.size)] [.int (Int32.ofNat N.slots.size), .ref s.heap.size, .ref a])) := by
    have hc : Steps p.tables e below (s₁.setTop (entryFrame m #[.ref a, .ref b, .int (Int32.ofNat o), .int (Int32.ofNat len), .null] 6)) (T8.setTop (mkF m 45 #[.val (.ref a), .val (.ref b), .val (.int (Int32.ofNat o)), .val (.int (Int32.ofNat len)), .val .null, .val (.ref s.heap.size)] [.int (Int32.ofNat len), .ref s.heap.size, .ref a])) := c9.trans (by
      refine XS.astore X8.here hexec rfl (hb hbytes d39) rfl rfl rfl ?_
      refine XS.aloadN X8.here hexec rfl (hb hbytes d41) rfl rfl ?_
      refine XS.aload X8.here hexec rfl (hb hbytes d42) rfl rfl ?_
      refine XS.iloadN X8.here hexec rfl (hb hbytes d44) rfl ?_
      exact Steps.refl _)
    rw [n4]; exact hc
  obtain ⟨v11, T11, X11, E11, g11⟩ := X8.callS hexec (CodL.law l s.heap.size N) hown (wks W (staticW "java/lang/String" 47 CodL.yN)) (wk W CodL.tab) (W := 1) (Nat.le_of_ble_eq_true rfl) (Nat.le_of_ble_eq_true rfl) (Nat.le_refl _) (by show 0 + len + 0 ≤ len; omega) (g := (mkF m 45 #[.val (.ref a), .val (.ref b), .val (.int (Int32.ofNat o)), .val (.int (Int32.ofNat len)), .val .null, .val (.ref s.heap.size)] [.int (Int32.ofNat N.slots.size), .ref s.heap.size, .ref a])) rfl (by rw [hml]; rfl) c10 (argsL := [.ref s.heap.size, .int (Int32.ofNat N.slots.size)]) (rest := [.ref a]) rfl rfl (by show 2 * 0 + (1 + 0) ≤ _; decide) (hb hbytes d45) (⟨rfl, n1⟩)
  obtain ⟨rfl, q11⟩ := E11
  have hB11 := hB1.mv (X8.warmed.alike.symm.trans X11.warmed.alike) q11
  have c12 : Steps p.tables e below (s₁.setTop (entryFrame m #[.ref a, .ref b, .int (Int32.ofNat o), .int (Int32.ofNat len), .null] 6)) (T11.setTop (mkF m 48 #[.val (.ref a), .val (.ref b), .val (.int (Int32.ofNat o)), .val (.int (Int32.ofNat len)), .val .null, .val (.ref s.heap.size)] [.int 0, .ref a])) := g11
  obtain ⟨T13, X13, p13, bl13, sl13, st13⟩ := X11.finit hexec hown (wk W (.fieldLink "java/lang/String" 15 "java/lang/String" "coder" "B")) (Or.inr ⟨_, (wk W (.laysFinal "java/lang/String" "java/lang/String" "coder" "B"))⟩) (Or.inl ⟨rfl, hnm⟩) f2 (Or.inl rfl) hB11 (t := .byte) (by decide +kernel) rfl (g := (mkF m 48 #[.val (.ref a), .val (.ref b), .val (.int (Int32.ofNat o)), .val (.int (Int32.ofNat len)), .val .null, .val (.ref s.heap.size)] [.int 0, .ref a])) rfl (rest := []) rfl (hb hbytes d48)
  have c14 : Steps p.tables e below (s₁.setTop (entryFrame m #[.ref a, .ref b, .int (Int32.ofNat o), .int (Int32.ofNat len), .null] 6)) (T13.setTop (mkF m 54 #[.val (.ref a), .val (.ref b), .val (.int (Int32.ofNat o)), .val (.int (Int32.ofNat len)), .val .null, .val (.ref s.heap.size)] [.ref s.heap.size, .ref a])) := (c12.trans (st13 _ (Steps.refl _))).trans (by
    refine XS.aloadN X13.here hexec rfl (hb hbytes d51) rfl rfl ?_
    refine XS.aload X13.here hexec rfl (hb hbytes d52) rfl rfl ?_
    exact Steps.refl _)
  obtain ⟨T15, X15, p15, bl15, sl15, st15⟩ := X13.finit hexec hown (wk W (.fieldLink "java/lang/String" 9 "java/lang/String" "value" "[B")) (Or.inr ⟨_, (wk W (.laysFinal "java/lang/String" "java/lang/String" "value" "[B"))⟩) (Or.inl ⟨rfl, hnm⟩) f1 (Or.inl rfl) bl13 (t := (.array .byte)) (by decide +kernel) rfl (g := (mkF m 54 #[.val (.ref a), .val (.ref b), .val (.int (Int32.ofNat o)), .val (.int (Int32.ofNat len)), .val .null, .val (.ref s.heap.size)] [.ref s.heap.size, .ref a])) rfl (rest := []) rfl (hb hbytes d54)
  have c16 : Steps p.tables e below (s₁.setTop (entryFrame m #[.ref a, .ref b, .int (Int32.ofNat o), .int (Int32.ofNat len), .null] 6)) (T15.setTop (mkF m 57 #[.val (.ref a), .val (.ref b), .val (.int (Int32.ofNat o)), .val (.int (Int32.ofNat len)), .val .null, .val (.ref s.heap.size)] [])) := c14.trans (st15 _ (Steps.refl _))
  have ap := apart (Or.inr ⟨_, (wk W (.laysFinal "java/lang/String" "java/lang/String" "value" "[B"))⟩) (Or.inr ⟨_, (wk W (.laysFinal "java/lang/String" "java/lang/String" "coder" "B"))⟩) f1 f2 (t₁ := .array .byte) (t₂ := .byte) (by decide +kernel) (by decide +kernel) (by decide)
  have al := X8.warmed.alike.symm.trans X15.warmed.alike
  have n7 : T11.heap[s.heap.size]? = some N := by rw [q11]; exact n1.1
  exact ⟨T15, none, _, _, _, X15, by simp, rfl, by omega, (fun _ => rfl), ⟨rfl, _, N, bl15, ((Same.refl D _).set _ (by simp)).set _ (by simp), sl15, (Cell.slots_setSlot_ne _ ap).trans sl13, n1.keep al (p15.other hne (p13.other hne n7)), n2, by rw [al.findClass]; exact n3, n4, n5, fun y c h1 h2 => p15.other h1 (p13.other h1 (by rw [q11]; exact n6 y c h2)), by rw [p15.2.2, p13.2.2, q11]; exact z8⟩, fun fs hl => c16.trans (X15.returnOut hexec hret (hb hbytes d57) hl)⟩
end New4
namespace New1
def yN : MethodName := ⟨"java/lang/String", "<init>", "([C)V"⟩
abbrev yB : ByteArray := jdk_42_method_3_code
theorem d0 : decode yB 0 = .ok (.aload_n 0, 1) := by decide +kernel
theorem d1 : decode yB 1 = .ok (.aload_n 1, 1) := by decide +kernel
theorem d2 : decode yB 2 = .ok (.iconst 0, 1) := by decide +kernel
theorem d3 : decode yB 3 = .ok (.aload_n 1, 1) := by decide +kernel
theorem d4 : decode yB 4 = .ok (.arraylength, 1) := by decide +kernel
theorem d5 : decode yB 5 = .ok (.aconst_null, 1) := by decide +kernel
theorem d6 : decode yB 6 = .ok (.invokespecial 27, 3) := by decide +kernel
theorem d9 : decode yB 9 = .ok (.return_, 1) := by decide +kernel
def site : List Cond := [New4.tab] ++ initW "java/lang/String" 27 New4.yN
def tab : Cond := tabOf yN yB 2 none site
def P (a : Addr) (D : Cell) (fV fC : Field) (b : Addr) (A : Cell) (z : Int32) (args : Array Value) (s : State) : Prop := args = #[.ref a, .ref b] ∧ Blank "java/lang/String" a D s ∧ Found "java/lang/String" "value" "[B" fV s ∧ Found "java/lang/String" "coder" "B" fC s ∧ Ch b A s ∧ StaticIs s "java/lang/String" "COMPACT_STRINGS" "Z" (.int z) ∧ ¬ z = 0 ∧ 0 < A.slots.size ∧ A.slots.size ≤ 536870912 ∧ ∀ i, i < A.slots.size → ¬ 255 < cv A i
def E (a : Addr) (D : Cell) (fV fC : Field) (A : Cell) (r : Option Value) (s u : State) : Prop := Got a D fV fC A 0 A.slots.size r s u
/-- new String(chars), not empty, no char above 255: a Latin-1 String of their low bytes -/
theorem law (l : Launch) (a : Addr) (D : Cell) (fV fC : Field) (b : Addr) (A : Cell) (z : Int32) : Law l yN 2 1 3 52 yB 2 none site (P a D fV fC b A z) (E a D fV fC A) [⟨a, fC.slot⟩, ⟨a, fV.slot⟩] 1 A.slots.size := by
  refine Law.of_walk (plainFor_of_name (by decide +kernel)) (by decide +kernel) (by decide +kernel) (by decide) (fun _ _ h => by rw [h.1]; rfl) (fun _ U U' hal hh h => ⟨h.1, h.2.1.mv hal hh, h.2.2.1.al hal, h.2.2.2.1.al hal, h.2.2.2.2.1.mv hal hh, h.2.2.2.2.2.1.there hal hh, h.2.2.2.2.2.2⟩) (fun r U U' V V' h1 hal h2 h => Got.mv r U U' V V' h1 hal h2 h) ?_
  intro p e s m args below meth c s₁ X0 hexec hbytes hml hret hlk hnm hown hh0 W hP
  obtain ⟨rfl, hB, f1, f2, hA, s1, hz, l0, l2, hp⟩ := hP
  have c1 : Steps p.tables e below (s₁.setTop (entryFrame m #[.ref a, .ref b] 2)) (s₁.setTop (mkF m 0 #[.val (.ref a), .val (.ref b)] [])) := entry rfl
  have c2 : Steps p.tables e below (s₁.setTop (entryFrame m #[.ref a, .ref b] 2)) (s₁.setTop (mkF m 6 #[.val (.ref a), .val (.ref b)] [.null, .int (Int32.ofNat A.slots.size), .int 0, .ref b, .ref a])) := c1.trans (by
    refine XS.aloadN X0.here hexec rfl (hb hbytes d0) rfl rfl ?_
    refine XS.aloadN X0.here hexec rfl (hb hbytes d1) rfl rfl ?_
    refine iconstV X0.here hexec rfl 0 (hb hbytes d2) (by decide) ?_
    refine XS.aloadN X0.here hexec rfl (hb hbytes d3) rfl rfl ?_
    refine X0.alen hexec (hA.1.mv X0.warmed.alike hh0) rfl rfl (hb hbytes d4) ?_
    refine XS.aconstNull X0.here hexec rfl (hb hbytes d5) ?_
    exact Steps.refl _)
  obtain ⟨v3, T3, X3, E3, g3⟩ := X0.callN hexec (New4.law l a D fV fC b A z 0 A.slots.size) rfl hown (wks W (initW "java/lang/String" 27 New4.yN)) (W New4.tab (by simp only [site, List.mem_cons, List.mem_append, true_or, or_true])) (W := 0) (Nat.le_of_ble_eq_true rfl) (Nat.le_of_ble_eq_true rfl) (Nat.le_refl _) (by show 0 + A.slots.size ≤ A.slots.size; omega) (g := (mkF m 6 #[.val (.ref a), .val (.ref b)] [.null, .int (Int32.ofNat A.slots.size), .int (Int32.ofNat 0), .ref b, .ref a])) rfl (by rw [hml]; rfl) c2 (argsL := [.ref b, .int (Int32.ofNat 0), .int (Int32.ofNat A.slots.size), .null]) (rest := []) rfl rfl (by show 2 * 0 + 0 ≤ _; decide) (hb hbytes d6) (⟨rfl, hB.mv X0.warmed.alike hh0, f1.al X0.warmed.alike, f2.al X0.warmed.alike, hA.mv X0.warmed.alike hh0, s1.there X0.warmed.alike hh0, hz, l0, by omega, l2, fun i hi => by rw [Nat.zero_add]; exact hp i hi⟩)
  have e0 := Got.mv _ s₁ s _ _ hh0.symm (Vm.Alike.refl _) rfl E3
  obtain rfl := e0.1
  have c4 : Steps p.tables e below (s₁.setTop (entryFrame m #[.ref a, .ref b] 2)) (T3.setTop (mkF m 9 #[.val (.ref a), .val (.ref b)] [])) := g3
  exact ⟨T3, none, _, _, _, X3, by simp, rfl, by omega, (fun _ => rfl), e0, fun fs hl => c4.trans (X3.returnOut hexec hret (hb hbytes d9) hl)⟩
theorem pays {l : Launch} {R : Room} {p : Program} {e : Env} {below : List Frame} {s : State} {sargs : Array Value} {len W : Nat} (a : Addr) (D : Cell) (fV fC : Field) (b : Addr) (A : Cell) (z : Int32) (htab : tab.before sargs s = true) (hfr : 4 ≤ R.frames) (hlo : W + 65 ≤ R.locals) :
    Back l R p e below s sargs yN len W (fun A₁ a₁ => A₁.cells + 1 ≤ R.cells ∧ A₁.slots + A.slots.size ≤ R.slots ∧ P a D fV fC b A z a₁ A₁.U) (fun A₁ _ v₁ B₁ => E a D fV fC A v₁ A₁.U B₁.U ∧ B₁.locs = A₁.locs ++ [⟨a, fC.slot⟩, ⟨a, fV.slot⟩] ∧ B₁.cells = A₁.cells + 1 ∧ B₁.slots = A₁.slots + A.slots.size) :=
  (law l a D fV fC b A z).pays htab hfr (by omega)
end New1
end StrChars
namespace StrChars.Road
open Jvm Sem ClassFile Op Lib Jvm.Stand Jvm.Free Jvm.Free.XT
open Jvm.Lib.Cold (StaticIs)
abbrev ST : String := "java/lang/String"
/-- every table word that New1's law asks, flat -/
abbrev words : List Jvm.Cond := [.code New1.yN New1.yB 2 none, .initialized ST, .methodLink ST 27 New4.yN, .instanceMethod New4.yN,
  .code New4.yN New4.yB 6 none, .fieldLink ST 38 ST "COMPACT_STRINGS" "Z", .laysFinal ST ST "value" "[B", .fieldLink ST 9 ST "value" "[B", .laysFinal ST ST "coder" "B", .fieldLink ST 15 ST "coder" "B",
  .methodLink ST 1 Lib.objectInit, .instanceMethod Lib.objectInit, .code Lib.objectInit ⟨#[0xb1]⟩ 1 none, .methodLink ST 177 Cmp3.yN, .static Cmp3.yN, .methodLink ST 47 CodL.yN, .static CodL.yN,
  .code Cmp3.yN Cmp3.yB 6 (some (.array .byte)), .initialized U16, .arrayClass .byte, .methodLink U16 115 Cmp5.yN, .static Cmp5.yN, .code Cmp5.yN Cmp5.yB 7 (some .int), .code CodL.yN CodL.yB 2 (some .byte)]
theorem tab_of {a : Array Value} {s : State} (h : ∀ w ∈ words, w.before a s = true) : New1.tab.before a s = true := by
  have h5 : Cmp5.tab.before a s = true := unparts (wk h (.code Cmp5.yN Cmp5.yB 7 (some .int))) (wks h (.initialized Cmp5.yN.cls :: Cmp5.site))
  have hc : CodL.tab.before a s = true := unparts (wk h (.code CodL.yN CodL.yB 2 (some .byte))) (wks h (.initialized CodL.yN.cls :: CodL.site))
  have q5 : ∀ w ∈ Cmp5.tab :: words, w.before a s = true := fun w hw => (List.mem_cons.mp hw).elim (fun e => e ▸ h5) (h w)
  have h3 : Cmp3.tab.before a s = true := unparts (wk q5 (.code Cmp3.yN Cmp3.yB 6 (some (.array .byte)))) (wks q5 (.initialized Cmp3.yN.cls :: Cmp3.site))
  have q3 : ∀ w ∈ Cmp3.tab :: CodL.tab :: words, w.before a s = true := fun w hw => (List.mem_cons.mp hw).elim (fun e => e ▸ h3) fun hw => (List.mem_cons.mp hw).elim (fun e => e ▸ hc) (h w)
  have h4 : New4.tab.before a s = true := unparts (wk q3 (.code New4.yN New4.yB 6 none)) (wks q3 (.initialized New4.yN.cls :: New4.site))
  have q4 : ∀ w ∈ New4.tab :: words, w.before a s = true := fun w hw => (List.mem_cons.mp hw).elim (fun e => e ▸ h4) (h w)
  exact unparts (wk q4 (.code New1.yN New1.yB 2 none)) (wks q4 (.initialized New1.yN.cls :: New1.site))
/-- the words ride from the start Z to the walk's own state -/
theorem moved {Z s : State} {a0 args : Array Value} (hZ : Z.Warmed39 s.vm) (hw : ∀ d ∈ words, d.before a0 Z = true) : ∀ d ∈ words, d.before args s = true := fun d hd => by
  have q := hw d hd
  have t : ∀ d ∈ words, d = .arrayClass .byte ∨ (d.onTables && d.keepsFace) = true := by decide +kernel
  rcases t d hd with rfl | t
  · exact RoadKit.mvA hZ q
  · exact RoadKit.mv hZ q t
/-- WHAT COMES BACK, over the tables of the start Z: h the heap at the call, h' behind it -/
def Q (Z : State) (x : Addr) (A : Cell) (h : Heap) (v : Option Value) (h' : Heap) (L : List Loc) : Prop := v = none ∧ (∀ y ∈ L, y.base = x) ∧ RoadKit.Keep h h' [x] ∧ h'.size = h.size + 1 ∧ RoadKit.Exa Z h' x ST ∧ RoadKit.Fld Z h' x ST "value" "[B" (.ref h.size) ∧ RoadKit.Fld Z h' x ST "coder" "B" (.int 0) ∧
  (∃ V : Cell, RoadKit.Arr Z h' h.size V .byte ∧ V.vm = .none ∧ Z.vm.findClass "[B" = some V.cls ∧ V.slots.size = A.slots.size ∧ ∀ j, j < A.slots.size → V.slots[j]? = some (.int (lo8 (cv A j)))) ∧
  ∀ (O n d : String) (w : Value), RoadKit.Fld Z h x O n d w → RoadKit.slotOf Z O n d ≠ RoadKit.slotOf Z ST "value" "[B" → RoadKit.slotOf Z O n d ≠ RoadKit.slotOf Z ST "coder" "B" → RoadKit.Fld Z h' x O n d w
/-- **new String(chars) AT A CALL, IN THE ROAD'S FORM**: for specialBack behind newO: x the fresh String, b the char[] with the cell A -/
theorem back {p : Program} {l : Launch} {e : Env} {R : Room} {s : State} {args : Array Value} {below : List Frame} {len W : Nat} {Z : State} {a0 : Array Value} {h : Heap} (hZ : Z.Warmed39 s.vm) (hw : ∀ d ∈ words, d.before a0 Z = true) {kI : Nat} (wi : (Jvm.Cond.instantiable ST kI).before a0 Z = true)
    {x b : Addr} {A : Cell} {z : Int32} {v0 c0 : Value} (E : RoadKit.Exa Z h x ST) (V : RoadKit.Fld Z h x ST "value" "[B" v0) (C : RoadKit.Fld Z h x ST "coder" "B" c0) (K : RoadKit.Arr Z h b A .char) (hty : Typed .char A) (S : RoadKit.Sta Z h ST "COMPACT_STRINGS" "Z" (.int z)) (hz : ¬ z = 0)
    (l0 : 0 < A.slots.size) (l2 : A.slots.size ≤ 536870912) (hp : ∀ i, i < A.slots.size → ¬ 255 < cv A i) (hfr : 4 ≤ R.frames) (hlo : W + 65 ≤ R.locals) :
    Back l R p e below s args New1.yN len W (fun P a => a = #[.ref x, .ref b] ∧ P.U.heap = h ∧ P.cells + 1 ≤ R.cells ∧ P.slots + A.slots.size ≤ R.slots)
      (fun P _ v B => ∃ L, Q Z x A h v B.U.heap L ∧ B.locs = P.locs ++ L ∧ B.cells = P.cells + 1 ∧ B.slots = P.slots + A.slots.size) := by
  intro m meth c P g ig mk a X hg hsize hdg hW hn hp'
  obtain ⟨rfl, rfl, r1, r2⟩ := hp'
  have al : Z.vm.Alike P.U.vm := hZ.alike.trans X.warmed.alike
  obtain ⟨D, cfV, kV, iV, fV, hD, gV, stV, knV, obV, asV, slV⟩ := id V
  obtain ⟨D', cfC, kC, iC, fC, hD', gC, stC, -, -, asC, slC⟩ := id C
  cases hD.symm.trans hD'
  obtain ⟨D2, kD, e1, e2, e3, e4, e5⟩ := id E
  cases hD.symm.trans e1
  obtain ⟨c2, k2, i1, i2, i3, -⟩ := Cond.instantiable_spec wi
  cases e2.symm.trans i1
  cases e3.symm.trans i2
  obtain ⟨kU, u1, u2⟩ := al.2.2 _ _ e3
  have hB : Blank ST x D P.U := ⟨hD, ⟨knV, fun q hq => by rw [hq] at obV; cases obV⟩, by rw [al.findClass]; exact e2, kU, u1, by rw [u2]; exact i3, by rw [u2]; exact e5 i3⟩
  have F1 : Found ST "value" "[B" fV P.U := ⟨SBG.found_only al ⟨cfV, kV, iV, gV⟩, stV⟩
  have F2 : Found ST "coder" "B" fC P.U := ⟨SBG.found_only al ⟨cfC, kC, iC, gC⟩, stC⟩
  have hA : Ch b A P.U := ⟨⟨K.1, State.isArrayOf_alike al K.2.1, K.2.2, by omega⟩, hty⟩
  have hS : StaticIs P.U ST "COMPACT_STRINGS" "Z" (.int z) := by
    obtain ⟨cfS, iS, kS, fS, st, cS, t1, t2, t3, t4, t5, t6, t7⟩ := S
    exact StaticIs.there (s := { Z with heap := P.U.heap }) ⟨cfS, iS, kS, fS, st, cS, t1, t2, t3, t4, t5, (fun q => by rw [q] at t6; cases t6), t7⟩ al rfl
  obtain ⟨v, B, X', ⟨⟨hv, E', V', q1, q2, q3, q4, q5, q6, q7, q8, q9, q10, q11⟩, hl, hc, hs⟩, st⟩ := New1.pays x D fV fC b A z (tab_of (moved hZ hw)) hfr hlo m meth c P g ig mk _ X hg hsize hdg hW hn ⟨r1, r2, rfl, hB, F1, F2, hA, hS, hz, l0, l2, hp⟩
  have al' : Z.vm.Alike B.U.vm := hZ.alike.trans X'.warmed.alike
  have hsz : E'.slots.size = D.slots.size := by
    obtain ⟨-, -, -, kB, w1, w2, w3⟩ := q1
    obtain ⟨kB', y1, y2⟩ := al'.2.2 _ _ e3
    rw [q2.2.1] at w1
    cases w1.symm.trans y1
    rw [w3, e5 i3, y2]
  refine ⟨v, B, X', ⟨_, ⟨hv, ?_, ⟨by omega, fun y cy hy hn' => q10 y cy (by simpa using hn') hy, fun y cy hy => ?_⟩, q11, ⟨E', _, q1.1, by rw [q2.2.1]; exact e2, by rw [q2.2.1]; exact e3, by rw [q2.1]; exact obV, fun _ => by rw [hsz]; exact e5 i3⟩,
    ⟨E', cfV, kV, iV, fV, q1.1, gV, stV, by rw [q2.1]; exact knV, by rw [q2.1]; exact obV, by rw [q2.2.1]; exact asV, q3⟩, ⟨E', cfC, kC, iC, fC, q1.1, gC, stC, by rw [q2.1]; exact knV, by rw [q2.1]; exact obV, by rw [q2.2.1]; exact asC, q4⟩,
    ⟨V', ⟨q5.1, State.isArrayOf_alike al'.symm q5.2.1, q5.2.2.1⟩, q6, by rw [← al'.findClass]; exact q7, q8, fun j hj => by have := q9 j hj; rwa [Nat.zero_add] at this⟩, fun O n d w F n1 n2 => ?_⟩, hl, hc, hs⟩, st⟩
  · intro y hy
    simp only [List.mem_cons, List.not_mem_nil, or_false] at hy
    rcases hy with rfl | rfl <;> rfl
  · by_cases q : y = x
    · subst q
      cases hD.symm.trans hy
      exact ⟨E', q1.1, q2.2.1, q2.1, hsz⟩
    · exact ⟨cy, q10 y cy q hy, rfl, rfl, rfl⟩
  · obtain ⟨D3, cf, k, i, f, g1, g2, g3, g4, g5, g6, g7⟩ := F
    cases hD.symm.trans g1
    simp only [RoadKit.slotOf, g2, gV, gC, Option.map_some, Option.getD_some] at n1 n2
    exact ⟨E', cf, k, i, f, q1.1, g2, g3, by rw [q2.1]; exact g4, by rw [q2.1]; exact g5, by rw [q2.2.1]; exact g6, by rw [q2.2.2 f.slot (by simp [n1, n2])]; exact g7⟩
end StrChars.Road
namespace StrChars.Road
open Jvm Sem ClassFile Op Lib Jvm.Stand Jvm.Free Jvm.Free.XT
/-- WHAT COMES BACK, the byte[] as a list of values -/
def QA (Z : State) (x : Addr) (zn : Int32) (cs : List Int32) (h : Heap) (v : Option Value) (h' : Heap) (L : List Loc) : Prop := v = none ∧ (∀ y ∈ L, y.base = x) ∧ RoadKit.Keep h h' [x] ∧ h'.size = h.size + 1 ∧ RoadKit.Exa Z h' x ST ∧ RoadKit.Fld Z h' x ST "value" "[B" (.ref h.size) ∧ RoadKit.Fld Z h' x ST "coder" "B" (.int 0) ∧
  (∃ kb, Z.vm.findClass "[B" = some kb ∧ RoadKit.Arv Z h' h.size kb .byte zn (cs.map fun c => .int (lo8 c)) (.int 0)) ∧
  ∀ (O n d : String) (w : Value), RoadKit.Fld Z h x O n d w → RoadKit.slotOf Z O n d ≠ RoadKit.slotOf Z ST "value" "[B" → RoadKit.slotOf Z O n d ≠ RoadKit.slotOf Z ST "coder" "B" → RoadKit.Fld Z h' x O n d w
/-- **new String(chars) AT A CALL, THE ARRAYS AS LISTS**: the char[] at b holds cs, not empty, no char above 255 -/
theorem backArv {p : Program} {l : Launch} {e : Env} {R : Room} {s : State} {args : Array Value} {below : List Frame} {len W : Nat} {Z : State} {a0 : Array Value} {h : Heap} (hZ : Z.Warmed39 s.vm) (hw : ∀ d ∈ words, d.before a0 Z = true) {kI : Nat} (wi : (Jvm.Cond.instantiable ST kI).before a0 Z = true)
    {x b : Addr} {k : ClassId} {zn z : Int32} {cs : List Int32} {dv v0 c0 : Value} (E : RoadKit.Exa Z h x ST) (V : RoadKit.Fld Z h x ST "value" "[B" v0) (C : RoadKit.Fld Z h x ST "coder" "B" c0) (K : RoadKit.Arv Z h b k .char zn (cs.map Value.int) dv) (S : RoadKit.Sta Z h ST "COMPACT_STRINGS" "Z" (.int z)) (hz : ¬ z = 0)
    (hlen : zn.toNatClampNeg = cs.length) (h0 : 0 < cs.length) (hbig : cs.length ≤ 536870912) (hall : ∀ c ∈ cs, ¬ 255 < c) (hfr : 4 ≤ R.frames) (hlo : W + 65 ≤ R.locals) :
    Back l R p e below s args New1.yN len W (fun P a => a = #[.ref x, .ref b] ∧ P.U.heap = h ∧ P.cells + 1 ≤ R.cells ∧ P.slots + cs.length ≤ R.slots)
      (fun P _ v B => ∃ L, QA Z x zn cs h v B.U.heap L ∧ B.locs = P.locs ++ L ∧ B.cells = P.cells + 1 ∧ B.slots = P.slots + cs.length) := by
  obtain ⟨A, K1, K2, K3, K4, K5, K6⟩ := K
  have e : A.slots.size = cs.length := K3.trans hlen
  have hat : ∀ (i : Nat) (hi : i < cs.length), A.slots[i]? = some (.int cs[i]) := fun i hi => by rw [K5 i (by omega)]; simp [List.getD_eq_getElem?_getD, hi]
  have hcv : ∀ (i : Nat) (hi : i < cs.length), cv A i = cs[i] := fun i hi => by unfold cv; rw [hat i hi]
  have hty : Typed .char A := fun i v hv => by
    have hi : i < A.slots.size := (Array.getElem?_eq_some_iff.mp hv).1
    have q := K5 i hi
    rw [hv] at q
    rw [Option.some.inj q]
    exact K6 i hi
  refine Back.mono (back hZ hw wi E V C K1 hty S hz (by omega) (by omega) (fun i hi => by rw [hcv i (by omega)]; exact hall _ (List.getElem_mem _)) hfr hlo) (fun P a hp => ⟨hp.1, hp.2.1, hp.2.2.1, by rw [e]; exact hp.2.2.2⟩) (fun P a v B hp hq => ?_)
  obtain ⟨L, ⟨q1, q2, q3, q4, q5, q6, q7, ⟨V', v1, v2, v3, v4, v5⟩, q9⟩, hl, hc, hs⟩ := hq
  refine ⟨L, ⟨q1, q2, q3, q4, q5, q6, q7, ⟨V'.cls, v3, V', v1, rfl, by rw [v4, e, hlen], K4, fun i hi => ?_, fun i hi => ?_⟩, q9⟩, hl, hc, by rw [hs, e]⟩
  · have hi' : i < cs.length := by omega
    rw [v5 i (by omega), hcv i hi']; simp [List.getD_eq_getElem?_getD, hi']
  · have hi' : i < cs.length := by omega
    simp only [List.getD_eq_getElem?_getD, List.getElem?_map, List.getElem?_eq_getElem hi', Option.map_some, Option.getD_some]
    exact fits_lo8 _
end StrChars.Road
namespace StrChars.Road
open Jvm Sem ClassFile Op Lib Jvm.Stand Jvm.Free Jvm.Free.XT
/-- WHAT COMES BACK, in the writer's own shape -/
def QV (Z : State) (x : Addr) (N : Int32) (bs : List Int32) (h : Heap) (n0 : Nat) (v : Option Value) (h' : Heap) (L : List Loc) : Prop := v = none ∧ RoadKit.Fr n0 L ∧ RoadKit.Keep h h' [x] ∧ RoadKit.Exa Z h' x ST ∧ RoadKit.Fld Z h' x ST "coder" "B" (.int 0) ∧
  ∃ (t : Addr) (kb : ClassId), n0 ≤ t ∧ h.size ≤ t ∧ ¬ t = x ∧ RoadKit.Fld Z h' x ST "value" "[B" (.ref t) ∧ RoadKit.Arv Z h' t kb .byte N (bs.map Value.int) (.int 0)
/-- **new String(chars) AT A CALL, FOR THE WRITER**: a char[] of n known ints, each 0 to 255 -/
theorem backV {p : Program} {l : Launch} {e : Env} {R : Room} {s : State} {args : Array Value} {below : List Frame} {len W : Nat} {Z : State} {a0 : Array Value} {h : Heap} (hZ : Z.Warmed39 s.vm) (hw : ∀ d ∈ words, d.before a0 Z = true) {kI : Nat} (wi : (Jvm.Cond.instantiable ST kI).before a0 Z = true)
    {x b : Addr} {kC : ClassId} {cs bs : List Int32} {d v0 c0 : Value} {z N : Int32} {n n0 : Nat} (hx0 : n0 ≤ x) (hh0 : n0 ≤ h.size) (E : RoadKit.Exa Z h x ST) (V : RoadKit.Fld Z h x ST "value" "[B" v0) (C : RoadKit.Fld Z h x ST "coder" "B" c0) (K : RoadKit.Arv Z h b kC .char N (cs.map Value.int) d) (S : RoadKit.Sta Z h ST "COMPACT_STRINGS" "Z" (.int z)) (hz : ¬ z = 0)
    (hn : cs.length = n) (hN : N = Int32.ofNat n) (l0 : 0 < n) (l2 : n ≤ 4000) (hp : ∀ c ∈ cs, ¬ c < 0 ∧ ¬ (255 : Int32) < c) (hb : bs = cs.map (fun c => c.toInt8.toInt32)) (hfr : 4 ≤ R.frames) (hlo : W + 65 ≤ R.locals) :
    Back l R p e below s args (⟨"java/lang/String", "<init>", "([C)V"⟩ : MethodName) len W (fun P a => a = #[.ref x, .ref b] ∧ P.U.heap = h ∧ P.cells + 1 ≤ R.cells ∧ P.slots + n ≤ R.slots)
      (fun P _ v B => ∃ L, QV Z x N bs h n0 v B.U.heap L ∧ B.locs = P.locs ++ L ∧ B.cells = P.cells + 1 ∧ B.slots = P.slots + n) := by
  subst hn hN hb
  refine Back.mono (backArv hZ hw wi E V C K S hz (n32 (by omega)) l0 (by omega) (fun c hc => (hp c hc).2) hfr hlo) (fun P a hp => hp) (fun P a v B hp hq => ?_)
  obtain ⟨L, ⟨q1, q2, q3, q4, q5, q6, q7, ⟨kb, v1, v2⟩, q9⟩, hl, hc, hs⟩ := hq
  exact ⟨L, ⟨q1, fun y hy => by rw [q2 y hy]; exact hx0, q3, q5, q7, h.size, kb, hh0, Nat.le_refl _, Nat.ne_of_gt E.lt, q6, by rw [List.map_map]; exact v2⟩, hl, hc, hs⟩
end StrChars.Road
end Jvm.Pilot.@@N@@

namespace Jvm.Pilot.@@N@@
open Jvm Jvm.ClassFile Sem Op Lib Jvm.Free Jvm.Stand Jvm.LawKit Jvm.RoadKit Bundle Jvm.Pilot.@@N@@.Jvm.D
section OwnKit
variable {p : Program} {l : Launch} {e : Env} {R : Room} {s : State} {m : MethodId} {args : Array Value} {below : List Frame} {meth : Method} {c : Code} {T : State} {locs : List Loc} {cells slots : Nat} {Z : State} {a0 : Array Value} {h : Heap} {n0 : Nat} {G : State → Outcome → Prop} {kc ks : Nat} {Q : Option Value → Heap → Prop}
/-- what is left of a walk: from U the body comes to an end of which G holds -/
def own_Go (tb : Tables) (e : Env) (below : List Frame) (G : State → Outcome → Prop) (U : State) : Prop := ∃ s₂ o, Steps tb e below U s₂ ∧ s₂.status = .running ∧ Ended s₂ below o ∧ G s₂ o
theorem own_go {tb : Tables} {U U' : State} (f : ∀ t, Steps tb e below U' t → Steps tb e below U t) (k : own_Go tb e below G U') : own_Go tb e below G U := by
  obtain ⟨a, b, c, d⟩ := k
  exact ⟨a, b, f _ c, d⟩
/-- where the run stands: its heap is h, nothing below n0 has been written -/
def own_At (p : Program) (l : Launch) (e : Env) (R : Room) (s : State) (m : MethodId) (args : Array Value) (below : List Frame) (meth : Method) (c : Code) (n0 : Nat) (T : State) (h : Heap) (cells slots : Nat) : Prop :=
  ∃ locs, Stand p l e R s m args below meth c T locs cells slots ∧ T.heap = h ∧ Fr n0 locs
theorem own_At.here (A : own_At p l e R s m args below meth c n0 T h cells slots) : At T m c below := by obtain ⟨_, X, -, -⟩ := A; exact X.here
theorem own_At.heap (A : own_At p l e R s m args below meth c n0 T h cells slots) : T.heap = h := by obtain ⟨_, -, q, -⟩ := A; exact q
/-- the end of a body: it returns v, Q holds of v and the heap -/
def own_End (n0 : Nat) (s : State) (kc ks : Nat) (Q : Option Value → Heap → Prop) : State → Outcome → Prop := fun s₂ o => ∃ v L, o = .returned v ∧ (Q v s₂.heap ∧ Fr n0 L) ∧ FrameEnd s o s₂ L kc ks
theorem own_leave (A : own_At p l e R s m args below meth c n0 T h cells slots) {v : Option Value} (hv : meth.sig.returnType = none → v = none) (hlk : meth.locks = false) (hc : cells ≤ kc) (hs : slots ≤ ks) (q : Q v h) {U : State}
    (st : ∀ locs, Stand p l e R s m args below meth c T locs cells slots → ∀ fs, (∀ (f : JFrame) (acts : List Action), f.method = m → f.locked = none → f.entered = [] → (doReturn e (T.setTop f) acts v).1 = T.setFrames fs) → Steps p.tables e below U (T.setFrames fs)) : own_Go p.tables e below (own_End n0 s kc ks Q) U := by
  obtain ⟨locs, X, rfl, N⟩ := A
  obtain ⟨fs, hr, hrun, hended, hW, hsame⟩ := X.leave hv hlk
  exact ⟨_, _, st locs X fs hr, hrun, hended, _, _, rfl, ⟨q, N⟩, ⟨_, rfl⟩, hW, hsame.mono hc hs⟩
theorem own_retI (A : own_At p l e R s m args below meth c n0 T h cells slots) (hx : p.tables.exec = Jvm.exec) (hret : meth.sig.returnType = some .int) (hlk : meth.locks = false) (hc : cells ≤ kc) (hs : slots ≤ ks) {pc : Nat} {Ls : Array Slot} {z : Int32} {rest : List Value} (hd : decode c.code pc = .ok (.ireturn, 1)) (q : Q (some (.int z)) h) :
    own_Go p.tables e below (own_End n0 s kc ks Q) (T.setTop (mkF m pc Ls (.int z :: rest))) :=
  own_leave A (fun q => by rw [hret] at q; cases q) hlk hc hs q fun _ X _ hr => retOut X hx hret rfl (Or.inl ⟨rfl, Or.inl rfl, _, rfl⟩) hd hr
theorem own_retN (A : own_At p l e R s m args below meth c n0 T h cells slots) (hx : p.tables.exec = Jvm.exec) {t : FieldType} (hret : meth.sig.returnType = some t) (ht : t = .boolean ∨ t = .byte ∨ t = .char ∨ t = .short) (hlk : meth.locks = false) (hc : cells ≤ kc) (hs : slots ≤ ks) {pc : Nat} {Ls : Array Slot} {z : Int32} {rest : List Value} (hd : decode c.code pc = .ok (.ireturn, 1)) (q : Q (some (.int (nar t z))) h) :
    own_Go p.tables e below (own_End n0 s kc ks Q) (T.setTop (mkF m pc Ls (.int z :: rest))) :=
  own_leave A (fun q => by rw [hret] at q; cases q) hlk hc hs q fun _ X _ hr => retN X hx hret ht hd hr
theorem own_retJ (A : own_At p l e R s m args below meth c n0 T h cells slots) (hx : p.tables.exec = Jvm.exec) (hret : meth.sig.returnType = some .long) (hlk : meth.locks = false) (hc : cells ≤ kc) (hs : slots ≤ ks) {pc : Nat} {Ls : Array Slot} {z : Int64} {rest : List Value} (hd : decode c.code pc = .ok (.lreturn, 1)) (q : Q (some (.long z)) h) :
    own_Go p.tables e below (own_End n0 s kc ks Q) (T.setTop (mkF m pc Ls (.long z :: rest))) :=
  own_leave A (fun q => by rw [hret] at q; cases q) hlk hc hs q fun _ X _ hr => retOut X hx hret rfl (Or.inr (Or.inl ⟨rfl, rfl, _, rfl⟩)) hd hr
theorem own_retD (A : own_At p l e R s m args below meth c n0 T h cells slots) (hx : p.tables.exec = Jvm.exec) (hret : meth.sig.returnType = some .double) (hlk : meth.locks = false) (hc : cells ≤ kc) (hs : slots ≤ ks) {pc : Nat} {Ls : Array Slot} {z : UInt64} {rest : List Value} (hd : decode c.code pc = .ok (.dreturn, 1)) (q : Q (some (.double z)) h) :
    own_Go p.tables e below (own_End n0 s kc ks Q) (T.setTop (mkF m pc Ls (.double z :: rest))) :=
  own_leave A (fun q => by rw [hret] at q; cases q) hlk hc hs q fun _ X _ hr => retOut X hx hret rfl (Or.inr (Or.inr (Or.inl ⟨rfl, rfl, _, rfl⟩))) hd hr
theorem own_retA (A : own_At p l e R s m args below meth c n0 T h cells slots) (hx : p.tables.exec = Jvm.exec) {t : FieldType} (hret : meth.sig.returnType = some t) (ht : t.isReference = true) (hlk : meth.locks = false) (hc : cells ≤ kc) (hs : slots ≤ ks) {pc : Nat} {Ls : Array Slot} {w : Value} (hw : w.isRef = true) {rest : List Value} (hd : decode c.code pc = .ok (.areturn, 1)) (q : Q (some w) h) :
    own_Go p.tables e below (own_End n0 s kc ks Q) (T.setTop (mkF m pc Ls (w :: rest))) :=
  own_leave A (fun q => by rw [hret] at q; cases q) hlk hc hs q fun _ X _ hr => retOut X hx hret (by cases t <;> first | rfl | cases ht) (Or.inr (Or.inr (Or.inr (Or.inr ⟨rfl, ht, hw⟩)))) hd hr
theorem own_retV (A : own_At p l e R s m args below meth c n0 T h cells slots) (hx : p.tables.exec = Jvm.exec) (hret : meth.sig.returnType = none) (hlk : meth.locks = false) (hc : cells ≤ kc) (hs : slots ≤ ks) {pc : Nat} {Ls : Array Slot} (hd : decode c.code pc = .ok (.return_, 1)) (q : Q none h) :
    own_Go p.tables e below (own_End n0 s kc ks Q) (T.setTop (mkF m pc Ls [])) :=
  own_leave A (fun _ => rfl) hlk hc hs q fun _ X _ hr => X.returnOut hx hret hd hr
/-- a body's contract: called with as' at the heap h0 it returns, and Q holds of what it returns and of the heap -/
def own_Met (l : Launch) (Z : State) (n0 : Nat) (y : MethodName) (bytes : ByteArray) (maxL : Nat) (ret : Option FieldType) (rm : Room) (as' : Array Value) (h0 : Heap) (Q : Option Value → Heap → Prop) : Prop :=
  ∀ ws, MetFree l y (head1 (Cond.code y bytes maxL ret :: ws) rm) (fun a U => a = as' ∧ Z.Warmed39 U.vm ∧ U.heap = h0) (fun _ _ _ _ _ => True) (fun _ U o U' => ∃ v L, o = .returned v ∧ (Q v U'.heap ∧ Fr n0 L) ∧ FrameEnd U o U' L rm.cells rm.slots)
theorem own_met {y : MethodName} {bytes : ByteArray} {maxL : Nat} {ret : Option FieldType} {rm : Room} {as' : Array Value} {h0 : Heap} (hp : plainFor y = true)
    (body : ∀ (p : Program) (e : Env) (s : State) (m : MethodId) (below : List Frame) (meth : Method) (c : Code) (T : State), p.tables.exec = Jvm.exec → c.code = bytes → c.maxLocals = maxL → s.vm.findClass y.cls = some m.cls → meth.name = y.name → meth.sig.returnType = ret → meth.locks = false → Z.Warmed39 s.vm →
      own_At p l e rm s m as' below meth c n0 T h0 0 0 → own_Go p.tables e below (own_End n0 s rm.cells rm.slots Q) (T.setTop (entryFrame m as' maxL))) : own_Met l Z n0 y bytes maxL ret rm as' h0 Q := by
  intro ws
  refine MetFree.of_bodySF hp hisR ?_
  intro p e s m args below meth c s₁ Bd hml0 hP hK
  obtain ⟨rfl, hZ, hh⟩ := hP
  exact body p e s m below meth c s₁ Bd.exec Bd.bytes hml0 (findClass_of_methodNamed Bd.named) (name_of_methodNamed Bd.named Bd.method).1 Bd.returns Bd.notSynchronized hZ ⟨[], Stand.of_body Bd, by rw [← hh, Bd.state]; rfl, Fr.nil n0⟩
theorem own_callS (A : own_At p l e R s m args below meth c n0 T h cells slots) (hx : p.tables.exec = Jvm.exec) (hZ : Z.Warmed39 s.vm) {own : String} {index : Nat} {y : MethodName} {bytes : ByteArray} {maxL : Nat} {ret : Option FieldType} (hown : s.vm.findClass own = some m.cls)
    (w1 : (Cond.methodLink own index y).before a0 Z = true) (w2 : (Cond.static y).before a0 Z = true) (w3 : (Cond.initialized y.cls).before a0 Z = true) (w4 : (Cond.code y bytes maxL ret).before a0 Z = true) (hy : y.cls ≠ "java/lang/invoke/MethodHandle" ∧ y.cls ≠ "java/lang/invoke/VarHandle")
    {rm : Room} {argsL rest : List Value} (hM : own_Met l Z n0 y bytes maxL ret rm argsL.toArray h Q) (W : Nat) (hfr : rm.frames + 1 ≤ R.frames) (hlo : W + (maxL + 11) + rm.locals ≤ R.locals) {g : JFrame} (hg : g.method = m) (hsize : g.locals.size = c.maxLocals)
    (hlen : ∀ sig, parseMethodDescriptor y.desc = some sig → argsL.length = sig.parameters.length) (hs : g.stack = argsL.reverse ++ rest) (hW : 2 * g.monitorRoom + (rest.map fun v => v.category).sum ≤ W) (hd : decode c.code g.pc = .ok (.invokestatic index, 3))
    (hc : cells + rm.cells ≤ R.cells) (hl : slots + rm.slots ≤ R.slots)
    (k : ∀ v T' h', own_At p l e R s m args below meth c n0 T' h' (cells + rm.cells) (slots + rm.slots) → Q v h' → own_Go p.tables e below G (T'.setTop { g with pc := g.pc + 3, stack := v.toList ++ rest })) : own_Go p.tables e below G (T.setTop g) := by
  obtain ⟨locs, X, eT, N⟩ := A
  obtain ⟨v, _, ⟨T1, L1, k1, s1⟩, -, X1, ⟨Lc, ⟨hQ, N1⟩, l1, y1, z1⟩, st⟩ := Jvm.LawKit.callS X hx (y := y) hown (mvT hZ w1) (mvT hZ w2) (mvT hZ w3) (mvT hZ w4) hy (backOf (Q := fun v h L => Q v h ∧ Fr n0 L) (W := W) (hM []) hZ w4 w3 hfr hlo) hg hsize (argsL := argsL) (rest := rest) hlen hs hW hd (fun _ _ => ⟨rfl, eT, hc, hl⟩)
  dsimp only [Pt.U, Pt.locs, Pt.cells, Pt.slots] at X1 l1 y1 z1 st hQ
  subst l1 y1 z1
  exact own_go (fun t k => st t k) (k v T1 T1.heap ⟨_, X1, rfl, N.app N1⟩ hQ)
theorem own_callV (A : own_At p l e R s m args below meth c n0 T h cells slots) (hx : p.tables.exec = Jvm.exec) (hZ : Z.Warmed39 s.vm) {own C : String} {index : Nat} {y z : MethodName} {bytes : ByteArray} {maxL : Nat} {ret : Option FieldType} (hown : s.vm.findClass own = some m.cls)
    (w1 : (Cond.methodLink own index y).before a0 Z = true) (w2 : (Cond.declares y).before a0 Z = true) (w3 : (Cond.selects C y z).before a0 Z = true) (w4 : (Cond.instanceMethod z).before a0 Z = true) (w5 : (Cond.initialized z.cls).before a0 Z = true) (w6 : (Cond.code z bytes maxL ret).before a0 Z = true) (nf : NotFace s y)
    (hy : y.cls ≠ "java/lang/invoke/MethodHandle" ∧ y.cls ≠ "java/lang/invoke/VarHandle")
    {rm : Room} {b : Addr} {argsL rest : List Value} (E : Exa Z h b C) (hM : own_Met l Z n0 z bytes maxL ret rm (.ref b :: argsL).toArray h Q) (W : Nat) (hfr : rm.frames + 1 ≤ R.frames) (hlo : W + (maxL + 11) + rm.locals ≤ R.locals) {g : JFrame} (hg : g.method = m) (hsize : g.locals.size = c.maxLocals)
    (hlen : ∀ sig, parseMethodDescriptor y.desc = some sig → argsL.length = sig.parameters.length) (hs : g.stack = argsL.reverse ++ .ref b :: rest) (hW : 2 * g.monitorRoom + (rest.map fun v => v.category).sum ≤ W) (hd : decode c.code g.pc = .ok (.invokevirtual index, 3))
    (hc : cells + rm.cells ≤ R.cells) (hl : slots + rm.slots ≤ R.slots)
    (k : ∀ v T' h', own_At p l e R s m args below meth c n0 T' h' (cells + rm.cells) (slots + rm.slots) → Q v h' → own_Go p.tables e below G (T'.setTop { g with pc := g.pc + 3, stack := v.toList ++ rest })) : own_Go p.tables e below G (T.setTop g) := by
  obtain ⟨locs, X, eT, N⟩ := A
  obtain ⟨cq, kq, qa, qb, qc⟩ := isOf hZ eT E
  obtain ⟨v, _, ⟨T1, L1, k1, s1⟩, -, X1, ⟨Lc, ⟨hQ, N1⟩, l1, y1, z1⟩, st⟩ := X.virtualBack hx (y := y) (z := z) hown (mvT hZ w1) (mvT hZ w2) nf (mvT hZ w3) (mvT hZ w4) hy (backOf (Q := fun v h L => Q v h ∧ Fr n0 L) (W := W) (hM []) hZ w6 w5 hfr hlo) qa qc hg hsize (Steps.refl _) (argsL := argsL) (rest := rest) hlen hs hW hd (fun _ _ => ⟨rfl, eT, hc, hl⟩)
  dsimp only [Pt.U, Pt.locs, Pt.cells, Pt.slots] at X1 l1 y1 z1 st hQ
  subst l1 y1 z1
  exact own_go (fun t k => st.trans k) (k v T1 T1.heap ⟨_, X1, rfl, N.app N1⟩ hQ)
theorem own_callI (A : own_At p l e R s m args below meth c n0 T h cells slots) (hx : p.tables.exec = Jvm.exec) (hZ : Z.Warmed39 s.vm) {own : String} {index : Nat} {y : MethodName} (hy1 : y.name = "<init>") {bytes : ByteArray} {maxL : Nat} (hown : s.vm.findClass own = some m.cls)
    (w1 : (Cond.methodLink own index y).before a0 Z = true) (w4 : (Cond.instanceMethod y).before a0 Z = true) (w5 : (Cond.initialized y.cls).before a0 Z = true) (w6 : (Cond.code y bytes maxL none).before a0 Z = true)
    (hy : y.cls ≠ "java/lang/invoke/MethodHandle" ∧ y.cls ≠ "java/lang/invoke/VarHandle")
    {rm : Room} {b : Addr} {argsL rest : List Value} (hM : own_Met l Z n0 y bytes maxL none rm (.ref b :: argsL).toArray h Q) (W : Nat) (hfr : rm.frames + 1 ≤ R.frames) (hlo : W + (maxL + 11) + rm.locals ≤ R.locals) {g : JFrame} (hg : g.method = m) (hsize : g.locals.size = c.maxLocals)
    (hlen : ∀ sig, parseMethodDescriptor y.desc = some sig → argsL.length = sig.parameters.length) (hs : g.stack = argsL.reverse ++ .ref b :: rest) (hW : 2 * g.monitorRoom + (rest.map fun v => v.category).sum ≤ W) (hd : decode c.code g.pc = .ok (.invokespecial index, 3))
    (hc : cells + rm.cells ≤ R.cells) (hl : slots + rm.slots ≤ R.slots)
    (k : ∀ v T' h', own_At p l e R s m args below meth c n0 T' h' (cells + rm.cells) (slots + rm.slots) → Q v h' → own_Go p.tables e below G (T'.setTop { g with pc := g.pc + 3, stack := v.toList ++ rest })) : own_Go p.tables e below G (T.setTop g) := by
  obtain ⟨locs, X, eT, N⟩ := A
  obtain ⟨v, _, ⟨T1, L1, k1, s1⟩, -, X1, ⟨Lc, ⟨hQ, N1⟩, l1, y1, z1⟩, st⟩ := X.specialBack hx (y := y) hy1 hown (mvT hZ w1) (mvT hZ w4) (mvT hZ w6) hy (backOf (Q := fun v h L => Q v h ∧ Fr n0 L) (W := W) (hM []) hZ w6 w5 hfr hlo) hg hsize (Steps.refl _) (a := b) (argsL := argsL) (rest := rest) hlen hs hW hd (fun _ _ => ⟨rfl, eT, hc, hl⟩)
  dsimp only [Pt.U, Pt.locs, Pt.cells, Pt.slots] at X1 l1 y1 z1 st hQ
  subst l1 y1 z1
  exact own_go (fun t k => st.trans k) (k v T1 T1.heap ⟨_, X1, rfl, N.app N1⟩ hQ)
theorem own_initO (A : own_At p l e R s m args below meth c n0 T h cells slots) (hx : p.tables.exec = Jvm.exec) (hZ : Z.Warmed39 s.vm) {own : String} {idx : Nat} (hown : s.vm.findClass own = some m.cls) (w1 : (Cond.methodLink own idx Lib.objectInit).before a0 Z = true) (w2 : (Cond.instanceMethod Lib.objectInit).before a0 Z = true)
    (w3 : (Cond.code Lib.objectInit ⟨#[0xb1]⟩ 1 none).before a0 Z = true) {g : JFrame} (hg : g.method = m) (hsize : g.locals.size = c.maxLocals) {a : Addr} {rest : List Value} (hs : g.stack = .ref a :: rest) (hd : decode c.code g.pc = .ok (.invokespecial idx, 3))
    (hf : 1 ≤ R.frames) (W : Nat) (hW : 2 * g.monitorRoom + (rest.map fun v => v.category).sum ≤ W) (hl : W + 12 ≤ R.locals)
    (k : ∀ T', own_At p l e R s m args below meth c n0 T' h cells slots → own_Go p.tables e below G (T'.setTop { g with pc := g.pc + 3, stack := rest })) : own_Go p.tables e below G (T.setTop g) := by
  obtain ⟨locs, X, eT, N⟩ := A
  obtain ⟨T1, X1, e1, st⟩ := initO X hx hZ hown w1 w2 w3 eT hg hsize hs hd hf hW hl
  exact own_go st (k T1 ⟨_, X1, e1, N⟩)
theorem own_getF (A : own_At p l e R s m args below meth c n0 T h cells slots) (hx : p.tables.exec = Jvm.exec) (hZ : Z.Warmed39 s.vm) {own R0 O n d host : String} {index : Nat} (hown : s.vm.findClass own = some m.cls) (w : (Cond.fieldLink own index R0 n d).before a0 Z = true ∨ (Cond.fieldLinkNest own index R0 n d host).before a0 Z = true) (via : Via Z R0 O n d)
    {a : Addr} {v : Value} (F : Fld Z h a O n d v) {g : JFrame} (hg : g.method = m) {rest : List Value} (hs : g.stack = .ref a :: rest) (hd : decode c.code g.pc = .ok (.getfield index, 3))
    (k : ∀ T', own_At p l e R s m args below meth c n0 T' h cells slots → own_Go p.tables e below G (T'.setTop { g with pc := g.pc + 3, stack := v :: rest })) : own_Go p.tables e below G (T.setTop g) := by
  obtain ⟨locs, X, eT, N⟩ := A
  obtain ⟨T1, X1, e1, st⟩ := getF X hx hZ hown w via eT F hg hs hd
  exact own_go st (k T1 ⟨_, X1, e1, N⟩)
theorem own_getS (A : own_At p l e R s m args below meth c n0 T h cells slots) (hx : p.tables.exec = Jvm.exec) (hZ : Z.Warmed39 s.vm) {own R0 O n d host : String} {index : Nat} (hown : s.vm.findClass own = some m.cls) (w : (Cond.fieldLink own index R0 n d).before a0 Z = true ∨ (Cond.fieldLinkNest own index R0 n d host).before a0 Z = true) (via : Via Z R0 O n d)
    {v : Value} (F : Sta Z h O n d v) {g : JFrame} (hg : g.method = m) (hd : decode c.code g.pc = .ok (.getstatic index, 3))
    (k : ∀ T', own_At p l e R s m args below meth c n0 T' h cells slots → own_Go p.tables e below G (T'.setTop { g with pc := g.pc + 3, stack := v :: g.stack })) : own_Go p.tables e below G (T.setTop g) := by
  obtain ⟨locs, X, eT, N⟩ := A
  obtain ⟨T1, X1, e1, st⟩ := getS2 X hx hZ hown w via eT F hg hd
  exact own_go st (k T1 ⟨_, X1, e1, N⟩)
theorem own_ldcI (A : own_At p l e R s m args below meth c n0 T h cells slots) (hx : p.tables.exec = Jvm.exec) (hZ : Z.Warmed39 s.vm) {own : String} {index : Nat} {v : Int32} (hown : s.vm.findClass own = some m.cls) (w : (Cond.constant own index v).before a0 Z = true) {g : JFrame} (hg : g.method = m) (hd : decode c.code g.pc = .ok (.ldc index, 2))
    (k : own_Go p.tables e below G (T.setTop { g with pc := g.pc + 2, stack := .int v :: g.stack })) : own_Go p.tables e below G (T.setTop g) := by
  obtain ⟨locs, X, eT, N⟩ := A
  exact own_go (X.ldcInt hx hown (mvT hZ w) hg hd) k
theorem own_ldcwI (A : own_At p l e R s m args below meth c n0 T h cells slots) (hx : p.tables.exec = Jvm.exec) (hZ : Z.Warmed39 s.vm) {own : String} {index : Nat} {v : Int32} (hown : s.vm.findClass own = some m.cls) (w : (Cond.constant own index v).before a0 Z = true) {g : JFrame} (hg : g.method = m) (hd : decode c.code g.pc = .ok (.ldc_w index, 3))
    (k : own_Go p.tables e below G (T.setTop { g with pc := g.pc + 3, stack := .int v :: g.stack })) : own_Go p.tables e below G (T.setTop g) := by
  obtain ⟨locs, X, eT, N⟩ := A
  exact own_go (X.ldcwInt hx hown (mvT hZ w) hg hd) k
theorem own_ldcJ (A : own_At p l e R s m args below meth c n0 T h cells slots) (hx : p.tables.exec = Jvm.exec) (hZ : Z.Warmed39 s.vm) {own : String} {index : Nat} {v : Int64} (hown : s.vm.findClass own = some m.cls) (w : (Cond.constantLong own index v).before a0 Z = true) {g : JFrame} (hg : g.method = m) (hd : decode c.code g.pc = .ok (.ldc2_w index, 3))
    (k : own_Go p.tables e below G (T.setTop { g with pc := g.pc + 3, stack := .long v :: g.stack })) : own_Go p.tables e below G (T.setTop g) := by
  obtain ⟨locs, X, eT, N⟩ := A
  exact own_go (X.ldc2Long hx hown (mvT hZ w) hg hd) k
/-- irem, with Java's sign -/
theorem own_irem {tb : Tables} [Ours tb] {target : State} {g : JFrame} (hh : At T m c below) (hx : tb.exec = Jvm.exec) (hg : g.method = m) {x y : Int32} {rest : List Value} (hd : decode c.code g.pc = .ok (.irem, 1)) (hs : g.stack = .int y :: .int x :: rest) (hy : y ≠ 0)
    (hr : Steps tb e below (T.setTop { g with pc := g.pc + 1, stack := .int (x % y) :: rest }) target) : Steps tb e below (T.setTop g) target :=
  XS.irem hh hx hg hd hs hy (by rw [irem_eq_mod]; exact hr)
theorem own_lrem {tb : Tables} [Ours tb] {target : State} {g : JFrame} (hh : At T m c below) (hx : tb.exec = Jvm.exec) (hg : g.method = m) {x y : Int64} {rest : List Value} (hd : decode c.code g.pc = .ok (.lrem, 1)) (hs : g.stack = .long y :: .long x :: rest) (hy : y ≠ 0)
    (hr : Steps tb e below (T.setTop { g with pc := g.pc + 1, stack := .long (x % y) :: rest }) target) : Steps tb e below (T.setTop g) target :=
  XS.lrem hh hx hg hd hs hy (by rw [lrem_mod]; exact hr)
theorem own_aeq {a b : Addr} (h : a = b) : if_acmp.holds .eq (some a) (some b) = true ∧ if_acmp.holds .ne (some a) (some b) = false := by simp [if_acmp.holds, h]
theorem own_ane {a b : Addr} (h : ¬ a = b) : if_acmp.holds .eq (some a) (some b) = false ∧ if_acmp.holds .ne (some a) (some b) = true := by simp [if_acmp.holds, h]
end OwnKit
section OwnHeap
variable {p : Program} {l : Launch} {e : Env} {R : Room} {s : State} {m : MethodId} {args : Array Value} {below : List Frame} {meth : Method} {c : Code} {T : State} {cells slots : Nat} {Z : State} {a0 : Array Value} {h h' : Heap} {n0 : Nat} {G : State → Outcome → Prop} {a b : Addr} {ty : FieldType} {n j : Int32} {f : Int32 → Int32}
/-- an array of ints (bytes, chars, booleans, shorts): its length is n, its place i holds f i -/
def own_Arr (Z : State) (h : Heap) (a : Addr) (ty : FieldType) (n : Int32) (f : Int32 → Int32) : Prop :=
  ∃ cl : Cell, Arr Z h a cl ty ∧ cl.slots.size = n.toNatClampNeg ∧ ¬ n < 0 ∧ ∀ j : Int32, ¬ j < 0 → j < n → cl.slots[j.toNatClampNeg]? = some (.int (f j))
theorem own_Arr.lt (F : own_Arr Z h a ty n f) : a < h.size := by obtain ⟨_, A, -⟩ := F; exact A.lt
theorem own_Arr.ext (F : own_Arr Z h a ty n f) (E : Ext h h') : own_Arr Z h' a ty n f := by obtain ⟨c, A, r⟩ := F; exact ⟨c, A.ext E, r⟩
theorem own_Arr.other {sl : Nat} {v : Value} (F : own_Arr Z h b ty n f) (W : Wr h h' a sl v) (q : b ≠ a) : own_Arr Z h' b ty n f := by obtain ⟨c, A, r⟩ := F; exact ⟨c, A.other W q, r⟩
theorem own_Arr.keep {ws : List Addr} (F : own_Arr Z h a ty n f) (K : Keep h h' ws) (q : a ∉ ws) : own_Arr Z h' a ty n f := by obtain ⟨c, A, r⟩ := F; exact ⟨c, ⟨K.2.1 a c A.1 q, A.2⟩, r⟩
theorem own_Arr.nn (F : own_Arr Z h a ty n f) : ¬ n < 0 := by obtain ⟨_, -, -, q, -⟩ := F; exact q
theorem own_Arr.congr {f' : Int32 → Int32} (F : own_Arr Z h a ty n f) (q : ∀ i, ¬ i < 0 → i < n → f i = f' i) : own_Arr Z h a ty n f' := by
  obtain ⟨c, A, r1, r2, r3⟩ := F
  exact ⟨c, A, r1, r2, fun i hi hn => by rw [r3 i hi hn, q i hi hn]⟩
theorem own_same {i j : Int32} (hi : ¬ i < 0) (hj : ¬ j < 0) (e : i.toNatClampNeg = j.toNatClampNeg) : i = j := by
  apply Int32.toInt_inj.mp
  rw [nat_of hi, nat_of hj, e]
theorem own_Arr.set {v : Int32} (F : own_Arr Z h a ty n f) (hj : ¬ j < 0) (W : Wr h h' a j.toNatClampNeg (.int v)) : own_Arr Z h' a ty n (fun i => if i = j then v else f i) := by
  obtain ⟨c, A, r1, r2, r3⟩ := F
  refine ⟨c.setSlot j.toNatClampNeg (.int v), A.same W, by rw [sz_set]; exact r1, r2, fun i hi hn => ?_⟩
  have hin := inb_of r1 ⟨hi, hn⟩
  by_cases q : i = j
  · subst q
    show _ = some (Value.int (if i = i then v else f i))
    rw [get_hit hin rfl, if_pos rfl]
  · show _ = some (Value.int (if i = j then v else f i))
    rw [get_miss hj hi q, r3 i hi hn, if_neg q]
theorem own_newO (A : own_At p l e R s m args below meth c n0 T h cells slots) (hx : p.tables.exec = Jvm.exec) (hZ : Z.Warmed39 s.vm) {own C : String} {index k : Nat} (hown : s.vm.findClass own = some m.cls) (w : (Cond.classLink own index C).before a0 Z = true) (wi : (Cond.instantiable C k).before a0 Z = true) (wz : (Cond.initialized C).before a0 Z = true)
    {g : JFrame} (hg : g.method = m) (hd : decode c.code g.pc = .ok (.new index, 3)) (hc : cells + 1 ≤ R.cells) (hl : slots + k ≤ R.slots)
    (kk : ∀ T' h' a, a = h.size → own_At p l e R s m args below meth c n0 T' h' (cells + 1) (slots + k) → Ext h h' → Exa Z h' a C → (∀ {O nm d : String} {ty : FieldType}, Laid Z a0 C O nm d → parseFieldDescriptor d = some ty → Fld Z h' a O nm d (defaultValue ty)) → own_Go p.tables e below G (T'.setTop { g with pc := g.pc + 3, stack := .ref a :: g.stack })) : own_Go p.tables e below G (T.setTop g) := by
  obtain ⟨locs, X, eT, N⟩ := A
  obtain ⟨T1, h1, X1, e1, E1, A1, D1, -, st⟩ := newO X hx hZ hown w wi wz eT hg hd hc hl
  exact own_go st (kk T1 h1 h.size rfl ⟨_, X1, e1, N⟩ E1 A1 D1)
theorem own_newP (A : own_At p l e R s m args below meth c n0 T h cells slots) (hx : p.tables.exec = Jvm.exec) (hZ : Z.Warmed39 s.vm) {aty : ArrayType} (w : (Cond.arrayClass (newarray.typeOf aty)).before a0 Z = true) (hty : defaultValue (newarray.typeOf aty) = .int 0) {g : JFrame} (hg : g.method = m) (hd : decode c.code g.pc = .ok (.newarray aty, 2)) {rest : List Value} (hs : g.stack = .int n :: rest)
    (hn : ¬ n < 0) (cap : Nat) (hcap : n.toNatClampNeg ≤ cap) (hb : cap * 8 ≤ 536870912) (hc : cells + 1 ≤ R.cells) (hl : slots + cap ≤ R.slots)
    (kk : ∀ T' h' a, a = h.size → own_At p l e R s m args below meth c n0 T' h' (cells + 1) (slots + cap) → Ext h h' → own_Arr Z h' a (newarray.typeOf aty) n (fun _ => 0) → (∃ k, Arv Z h' a k (newarray.typeOf aty) n [] (.int 0)) → own_Go p.tables e below G (T'.setTop { g with pc := g.pc + 2, stack := .ref a :: rest })) : own_Go p.tables e below G (T.setTop g) := by
  obtain ⟨locs, X, eT, N⟩ := A
  obtain ⟨T1, h1, k1, X1, e1, E1, A1, st⟩ := newP X hx hZ w eT hg hd hs hn hcap hb hc hl
  refine own_go st (kk T1 h1 h.size rfl ⟨_, X1, e1, N⟩ E1 ⟨_, A1, sz_new _ _ _, hn, fun i hi hin => ?_⟩ ⟨k1, hty ▸ Arv.new A1 hn⟩)
  have q := inb_of (c := newA k1 (newarray.typeOf aty) n) (sz_new _ _ _) ⟨hi, hin⟩
  rw [sz_new] at q
  rw [get_new q, hty]
theorem own_putF (A : own_At p l e R s m args below meth c n0 T h cells slots) (hx : p.tables.exec = Jvm.exec) (hZ : Z.Warmed39 s.vm) {own R0 O nm d host C : String} {index kk : Nat} (hown : s.vm.findClass own = some m.cls) (w : (Cond.fieldLink own index R0 nm d).before a0 Z = true ∨ (Cond.fieldLinkNest own index R0 nm d host).before a0 Z = true) (via : Via Z R0 O nm d)
    {v old : Value} (F : Fld Z h a O nm d old) (E : Exa Z h a C) (L : (Cond.lays C O nm d).before a0 Z = true ∨ ((Cond.laysFinal C O nm d).before a0 Z = true ∧ own = O ∧ meth.name = "<init>")) (wi : (Cond.instantiable C kk).before a0 Z = true)
    (hty : parseFieldDescriptor d = some ty) (hn : narrow ty v = v) (hf : fits ty v = true) (q : n0 ≤ a) {g : JFrame} (hg : g.method = m) {rest : List Value} (hs : g.stack = v :: .ref a :: rest) (hd : decode c.code g.pc = .ok (.putfield index, 3))
    (k : ∀ T' h', own_At p l e R s m args below meth c n0 T' h' cells slots → Wr h h' a (Jvm.RoadKit.slotOf Z O nm d) v → own_Go p.tables e below G (T'.setTop { g with pc := g.pc + 3, stack := rest })) : own_Go p.tables e below G (T.setTop g) := by
  obtain ⟨locs, X, eT, N⟩ := A
  obtain ⟨T1, h1, X1, e1, W1, st⟩ := putF X hx hZ hown w via eT F E L wi hty hn hf hg hs hd
  exact own_go st (k T1 h1 ⟨_, X1, e1, Fr.snoc X1 N q⟩ W1)
theorem own_stI (A : own_At p l e R s m args below meth c n0 T h cells slots) (hx : p.tables.exec = Jvm.exec) (hZ : Z.Warmed39 s.vm) {v : Int32} (F : own_Arr Z h a .int n f) (hj : ¬ j < 0 ∧ j < n) (q : n0 ≤ a) {g : JFrame} (hg : g.method = m) {rest : List Value} (hs : g.stack = .int v :: .int j :: .ref a :: rest) (hd : decode c.code g.pc = .ok (.iastore, 1))
    (k : ∀ T' h', own_At p l e R s m args below meth c n0 T' h' cells slots → Wr h h' a j.toNatClampNeg (.int v) → own_Arr Z h' a .int n (fun i => if i = j then v else f i) → own_Go p.tables e below G (T'.setTop { g with pc := g.pc + 1, stack := rest })) : own_Go p.tables e below G (T.setTop g) := by
  obtain ⟨locs, X, eT, N⟩ := A
  obtain ⟨c1, A1, S1, M1, H1⟩ := id F
  obtain ⟨T1, h1, X1, e1, W1, st⟩ := stI X hx hZ eT A1 (inb_of S1 hj) hg hs hd
  exact own_go st (k T1 h1 ⟨_, X1, e1, Fr.snoc X1 N q⟩ W1 (F.set hj.1 W1))
theorem own_stB (A : own_At p l e R s m args below meth c n0 T h cells slots) (hx : p.tables.exec = Jvm.exec) (hZ : Z.Warmed39 s.vm) {v : Int32} (F : own_Arr Z h a .byte n f) (hj : ¬ j < 0 ∧ j < n) (q : n0 ≤ a) {g : JFrame} (hg : g.method = m) {rest : List Value} (hs : g.stack = .int v :: .int j :: .ref a :: rest) (hd : decode c.code g.pc = .ok (.bastore, 1))
    (k : ∀ T' h', own_At p l e R s m args below meth c n0 T' h' cells slots → Wr h h' a j.toNatClampNeg (.int (nar .byte v)) → own_Arr Z h' a .byte n (fun i => if i = j then nar .byte v else f i) → own_Go p.tables e below G (T'.setTop { g with pc := g.pc + 1, stack := rest })) : own_Go p.tables e below G (T.setTop g) := by
  obtain ⟨locs, X, eT, N⟩ := A
  obtain ⟨c1, A1, S1, M1, H1⟩ := id F
  obtain ⟨T1, h1, X1, e1, W1, st⟩ := stB X hx hZ eT A1 (inb_of S1 hj) hg hs hd
  exact own_go st (k T1 h1 ⟨_, X1, e1, Fr.snoc X1 N q⟩ W1 (F.set hj.1 W1))
theorem own_stC (A : own_At p l e R s m args below meth c n0 T h cells slots) (hx : p.tables.exec = Jvm.exec) (hZ : Z.Warmed39 s.vm) {v : Int32} (F : own_Arr Z h a .char n f) (hj : ¬ j < 0 ∧ j < n) (q : n0 ≤ a) {g : JFrame} (hg : g.method = m) {rest : List Value} (hs : g.stack = .int v :: .int j :: .ref a :: rest) (hd : decode c.code g.pc = .ok (.castore, 1))
    (k : ∀ T' h', own_At p l e R s m args below meth c n0 T' h' cells slots → Wr h h' a j.toNatClampNeg (.int (nar .char v)) → own_Arr Z h' a .char n (fun i => if i = j then nar .char v else f i) → own_Go p.tables e below G (T'.setTop { g with pc := g.pc + 1, stack := rest })) : own_Go p.tables e below G (T.setTop g) := by
  obtain ⟨locs, X, eT, N⟩ := A
  obtain ⟨c1, A1, S1, M1, H1⟩ := id F
  obtain ⟨T1, h1, X1, e1, W1, st⟩ := stC X hx hZ eT A1 (inb_of S1 hj) hg hs hd
  exact own_go st (k T1 h1 ⟨_, X1, e1, Fr.snoc X1 N q⟩ W1 (F.set hj.1 W1))
theorem own_ldI (A : own_At p l e R s m args below meth c n0 T h cells slots) (hx : p.tables.exec = Jvm.exec) (hZ : Z.Warmed39 s.vm) (F : own_Arr Z h a .int n f) (hj : ¬ j < 0 ∧ j < n) {g : JFrame} (hg : g.method = m) {rest : List Value} (hs : g.stack = .int j :: .ref a :: rest) (hd : decode c.code g.pc = .ok (.iaload, 1))
    (k : own_Go p.tables e below G (T.setTop { g with pc := g.pc + 1, stack := .int (f j) :: rest })) : own_Go p.tables e below G (T.setTop g) := by
  obtain ⟨locs, X, eT, N⟩ := A
  obtain ⟨c1, A1, S1, M1, H1⟩ := F
  exact own_go (fun t k => X.iaload hx (by rw [eT]; exact A1.1) (State.isArrayOf_alike hZ.alike A1.2.1) A1.2.2 (inb_of S1 hj) (H1 j hj.1 hj.2) hg hs hd t k) k
theorem own_ldB (A : own_At p l e R s m args below meth c n0 T h cells slots) (hx : p.tables.exec = Jvm.exec) (hZ : Z.Warmed39 s.vm) (F : own_Arr Z h a .byte n f) (hj : ¬ j < 0 ∧ j < n) {g : JFrame} (hg : g.method = m) {rest : List Value} (hs : g.stack = .int j :: .ref a :: rest) (hd : decode c.code g.pc = .ok (.baload, 1))
    (k : own_Go p.tables e below G (T.setTop { g with pc := g.pc + 1, stack := .int (f j) :: rest })) : own_Go p.tables e below G (T.setTop g) := by
  obtain ⟨locs, X, eT, N⟩ := A
  obtain ⟨c1, A1, S1, M1, H1⟩ := F
  exact own_go (fun t k => X.baloadBytes hx (by rw [eT]; exact A1.1) (State.isArrayOf_alike hZ.alike A1.2.1) A1.2.2 (inb_of S1 hj) (H1 j hj.1 hj.2) hg hs hd t k) k
theorem own_ldC (A : own_At p l e R s m args below meth c n0 T h cells slots) (hx : p.tables.exec = Jvm.exec) (hZ : Z.Warmed39 s.vm) (F : own_Arr Z h a .char n f) (hj : ¬ j < 0 ∧ j < n) {g : JFrame} (hg : g.method = m) {rest : List Value} (hs : g.stack = .int j :: .ref a :: rest) (hd : decode c.code g.pc = .ok (.caload, 1))
    (k : own_Go p.tables e below G (T.setTop { g with pc := g.pc + 1, stack := .int (f j) :: rest })) : own_Go p.tables e below G (T.setTop g) := by
  obtain ⟨locs, X, eT, N⟩ := A
  obtain ⟨c1, A1, S1, M1, H1⟩ := F
  exact own_go (fun t k => X.caload hx (by rw [eT]; exact A1.1) (State.isArrayOf_alike hZ.alike A1.2.1) A1.2.2 (inb_of S1 hj) (H1 j hj.1 hj.2) hg hs hd t k) k
theorem own_len (A : own_At p l e R s m args below meth c n0 T h cells slots) (hx : p.tables.exec = Jvm.exec) (hZ : Z.Warmed39 s.vm) (F : own_Arr Z h a ty n f) {g : JFrame} (hg : g.method = m) {rest : List Value} (hs : g.stack = .ref a :: rest) (hd : decode c.code g.pc = .ok (.arraylength, 1))
    (k : own_Go p.tables e below G (T.setTop { g with pc := g.pc + 1, stack := .int n :: rest })) : own_Go p.tables e below G (T.setTop g) := by
  obtain ⟨locs, X, eT, N⟩ := A
  obtain ⟨c1, A1, S1, M1, H1⟩ := F
  rw [← len_of S1 M1] at k
  exact own_go (fun t k => X.arraylength hx (by rw [eT]; exact A1.1) (State.isArrayOf_alike hZ.alike A1.2.1) hg hs hd t k) k
end OwnHeap
/-! small naturals as ints -/
theorem own_nI {i : Nat} (hi : i < 2 ^ 31) : (Int32.ofNat i).toInt = (i : Int) := Int32.toInt_ofNat_small hi
theorem own_nlt {i j : Nat} (hi : i < 2 ^ 31) (hj : j < 2 ^ 31) : (Int32.ofNat i < Int32.ofNat j) ↔ i < j := by rw [Int32.lt_iff_toInt_lt, own_nI hi, own_nI hj]; omega
theorem own_nn {i : Nat} (hi : i < 2 ^ 31) : ¬ Int32.ofNat i < 0 := by rw [Int32.lt_iff_toInt_lt, own_nI hi]; have : (0 : Int32).toInt = 0 := rfl; omega
theorem own_neq {i j : Nat} (hi : i < 2 ^ 31) (hj : j < 2 ^ 31) : (Int32.ofNat i = Int32.ofNat j) ↔ i = j := by rw [← Int32.toInt_inj, own_nI hi, own_nI hj]; omega
theorem own_nadd (i j : Nat) : Int32.ofNat i + Int32.ofNat j = Int32.ofNat (i + j) := (Int32.ofNat_add i j).symm
theorem own_nmul (i j : Nat) : Int32.ofNat i * Int32.ofNat j = Int32.ofNat (i * j) := (Int32.ofNat_mul i j).symm
theorem own_succ (i : Nat) : Int32.ofNat i + (1 : Int32) = Int32.ofNat (i + 1) := own_nadd i 1
theorem own_dbl (i : Nat) : (2 : Int32) * Int32.ofNat i = Int32.ofNat (2 * i) := own_nmul 2 i
theorem own_prd (i : Nat) : Int32.ofNat (i + 1) + (-1 : Int32) = Int32.ofNat i := by rw [← own_succ, Int32.add_assoc]; show Int32.ofNat i + 0 = _; rw [Int32.add_zero]
theorem own_sub1 (i : Nat) : Int32.ofNat (i + 1) - (1 : Int32) = Int32.ofNat i := by rw [← own_succ, Int32.add_sub_cancel]
theorem own_nge {i j : Nat} (hi : i < 2 ^ 31) (hj : j < 2 ^ 31) (h : ¬ Int32.ofNat i < Int32.ofNat j) : j ≤ i := Nat.le_of_not_lt fun z => h ((own_nlt hi hj).mpr z)
section OwnBack
variable {p : Program} {l : Launch} {e : Env} {R : Room} {s : State} {m : MethodId} {args : Array Value} {below : List Frame} {meth : Method} {c : Code} {T : State} {cells slots : Nat} {Z : State} {a0 : Array Value} {h : Heap} {n0 : Nat} {G : State → Outcome → Prop} {Q : Option Value → Heap → Prop}
/-- a call that is paid by a law of the library or of a paste -/
def own_Bk (l : Launch) (R : Room) (p : Program) (e : Env) (below : List Frame) (s : State) (args : Array Value) (n0 : Nat) (y : MethodName) (W : Nat) (as' : Array Value) (h : Heap) (kc ks : Nat) (Q : Option Value → Heap → Prop) : Prop :=
  Back l R p e below s args y 3 W (fun A a => a = as' ∧ A.U.heap = h ∧ A.cells + kc ≤ R.cells ∧ A.slots + ks ≤ R.slots) (fun A _ v B => ∃ L, (Q v B.U.heap ∧ Fr n0 L) ∧ B.locs = A.locs ++ L ∧ B.cells = A.cells + kc ∧ B.slots = A.slots + ks)
theorem own_callSB (A : own_At p l e R s m args below meth c n0 T h cells slots) (hx : p.tables.exec = Jvm.exec) (hZ : Z.Warmed39 s.vm) {own : String} {index : Nat} {y : MethodName} {bytes : ByteArray} {maxL : Nat} {ret : Option FieldType} (hown : s.vm.findClass own = some m.cls)
    (w1 : (Cond.methodLink own index y).before a0 Z = true) (w2 : (Cond.static y).before a0 Z = true) (w3 : (Cond.initialized y.cls).before a0 Z = true) (w4 : (Cond.code y bytes maxL ret).before a0 Z = true) (hy : y.cls ≠ "java/lang/invoke/MethodHandle" ∧ y.cls ≠ "java/lang/invoke/VarHandle")
    {W kc ks : Nat} {argsL rest : List Value} (hB : own_Bk l R p e below s args n0 y W argsL.toArray h kc ks Q) {g : JFrame} (hg : g.method = m) (hsize : g.locals.size = c.maxLocals)
    (hlen : ∀ sig, parseMethodDescriptor y.desc = some sig → argsL.length = sig.parameters.length) (hs : g.stack = argsL.reverse ++ rest) (hW : 2 * g.monitorRoom + (rest.map fun v => v.category).sum ≤ W) (hd : decode c.code g.pc = .ok (.invokestatic index, 3))
    (hc : cells + kc ≤ R.cells) (hl : slots + ks ≤ R.slots)
    (k : ∀ v T' h', own_At p l e R s m args below meth c n0 T' h' (cells + kc) (slots + ks) → Q v h' → own_Go p.tables e below G (T'.setTop { g with pc := g.pc + 3, stack := v.toList ++ rest })) : own_Go p.tables e below G (T.setTop g) := by
  obtain ⟨locs, X, eT, N⟩ := A
  obtain ⟨v, _, ⟨T1, L1, k1, s1⟩, -, X1, ⟨Lc, ⟨hQ, N1⟩, l1, y1, z1⟩, st⟩ := Jvm.LawKit.callS X hx (y := y) hown (mvT hZ w1) (mvT hZ w2) (mvT hZ w3) (mvT hZ w4) hy hB hg hsize (argsL := argsL) (rest := rest) hlen hs hW hd (fun _ _ => ⟨rfl, eT, hc, hl⟩)
  dsimp only [Pt.U, Pt.locs, Pt.cells, Pt.slots] at X1 l1 y1 z1 st hQ
  subst l1 y1 z1
  exact own_go (fun t k => st t k) (k v T1 T1.heap ⟨_, X1, rfl, N.app N1⟩ hQ)
theorem own_callVB (A : own_At p l e R s m args below meth c n0 T h cells slots) (hx : p.tables.exec = Jvm.exec) (hZ : Z.Warmed39 s.vm) {own C : String} {index : Nat} {y z : MethodName} (hown : s.vm.findClass own = some m.cls)
    (w1 : (Cond.methodLink own index y).before a0 Z = true) (w2 : (Cond.declares y).before a0 Z = true) (w3 : (Cond.selects C y z).before a0 Z = true) (w4 : (Cond.instanceMethod z).before a0 Z = true) (nf : NotFace s y)
    (hy : y.cls ≠ "java/lang/invoke/MethodHandle" ∧ y.cls ≠ "java/lang/invoke/VarHandle")
    {W kc ks : Nat} {b : Addr} {argsL rest : List Value} (E : Exa Z h b C) (hB : own_Bk l R p e below s args n0 z W (.ref b :: argsL).toArray h kc ks Q) {g : JFrame} (hg : g.method = m) (hsize : g.locals.size = c.maxLocals)
    (hlen : ∀ sig, parseMethodDescriptor y.desc = some sig → argsL.length = sig.parameters.length) (hs : g.stack = argsL.reverse ++ .ref b :: rest) (hW : 2 * g.monitorRoom + (rest.map fun v => v.category).sum ≤ W) (hd : decode c.code g.pc = .ok (.invokevirtual index, 3))
    (hc : cells + kc ≤ R.cells) (hl : slots + ks ≤ R.slots)
    (k : ∀ v T' h', own_At p l e R s m args below meth c n0 T' h' (cells + kc) (slots + ks) → Q v h' → own_Go p.tables e below G (T'.setTop { g with pc := g.pc + 3, stack := v.toList ++ rest })) : own_Go p.tables e below G (T.setTop g) := by
  obtain ⟨locs, X, eT, N⟩ := A
  obtain ⟨cq, kq, qa, qb, qc⟩ := isOf hZ eT E
  obtain ⟨v, _, ⟨T1, L1, k1, s1⟩, -, X1, ⟨Lc, ⟨hQ, N1⟩, l1, y1, z1⟩, st⟩ := X.virtualBack hx (y := y) (z := z) hown (mvT hZ w1) (mvT hZ w2) nf (mvT hZ w3) (mvT hZ w4) hy hB qa qc hg hsize (Steps.refl _) (argsL := argsL) (rest := rest) hlen hs hW hd (fun _ _ => ⟨rfl, eT, hc, hl⟩)
  dsimp only [Pt.U, Pt.locs, Pt.cells, Pt.slots] at X1 l1 y1 z1 st hQ
  subst l1 y1 z1
  exact own_go (fun t k => st.trans k) (k v T1 T1.heap ⟨_, X1, rfl, N.app N1⟩ hQ)
theorem own_callIB (A : own_At p l e R s m args below meth c n0 T h cells slots) (hx : p.tables.exec = Jvm.exec) (hZ : Z.Warmed39 s.vm) {own : String} {index : Nat} {y : MethodName} (hy1 : y.name = "<init>") {bytes : ByteArray} {maxL : Nat} (hown : s.vm.findClass own = some m.cls)
    (w1 : (Cond.methodLink own index y).before a0 Z = true) (w4 : (Cond.instanceMethod y).before a0 Z = true) (w6 : (Cond.code y bytes maxL none).before a0 Z = true)
    (hy : y.cls ≠ "java/lang/invoke/MethodHandle" ∧ y.cls ≠ "java/lang/invoke/VarHandle")
    {W kc ks : Nat} {b : Addr} {argsL rest : List Value} (hB : own_Bk l R p e below s args n0 y W (.ref b :: argsL).toArray h kc ks Q) {g : JFrame} (hg : g.method = m) (hsize : g.locals.size = c.maxLocals)
    (hlen : ∀ sig, parseMethodDescriptor y.desc = some sig → argsL.length = sig.parameters.length) (hs : g.stack = argsL.reverse ++ .ref b :: rest) (hW : 2 * g.monitorRoom + (rest.map fun v => v.category).sum ≤ W) (hd : decode c.code g.pc = .ok (.invokespecial index, 3))
    (hc : cells + kc ≤ R.cells) (hl : slots + ks ≤ R.slots)
    (k : ∀ v T' h', own_At p l e R s m args below meth c n0 T' h' (cells + kc) (slots + ks) → Q v h' → own_Go p.tables e below G (T'.setTop { g with pc := g.pc + 3, stack := v.toList ++ rest })) : own_Go p.tables e below G (T.setTop g) := by
  obtain ⟨locs, X, eT, N⟩ := A
  obtain ⟨v, _, ⟨T1, L1, k1, s1⟩, -, X1, ⟨Lc, ⟨hQ, N1⟩, l1, y1, z1⟩, st⟩ := X.specialBack hx (y := y) hy1 hown (mvT hZ w1) (mvT hZ w4) (mvT hZ w6) hy hB hg hsize (Steps.refl _) (a := b) (argsL := argsL) (rest := rest) hlen hs hW hd (fun _ _ => ⟨rfl, eT, hc, hl⟩)
  dsimp only [Pt.U, Pt.locs, Pt.cells, Pt.slots] at X1 l1 y1 z1 st hQ
  subst l1 y1 z1
  exact own_go (fun t k => st.trans k) (k v T1 T1.heap ⟨_, X1, rfl, N.app N1⟩ hQ)
end OwnBack
section OwnStr
variable {p : Program} {l : Launch} {e : Env} {R : Room} {s : State} {args : Array Value} {below : List Frame} {Z : State} {a0 : Array Value} {h h' : Heap} {n0 : Nat} {a b x : Addr} {ty : FieldType} {N : Int32} {f : Int32 → Int32}
theorem own_ofN {j : Int32} (hj : ¬ j < 0) : Int32.ofNat j.toNatClampNeg = j := (back32 hj).1
theorem own_toN {k : Nat} (hk : k < 2 ^ 31) : (Int32.ofNat k).toNatClampNeg = k := by
  rw [Int32.toNatClampNeg, own_nI hk]
  exact Int.toNat_natCast _
def own_lst (f : Int32 → Int32) (n : Nat) : List Int32 := (List.range n).map fun i => f (Int32.ofNat i)
theorem own_lst_len (f : Int32 → Int32) (n : Nat) : (own_lst f n).length = n := by simp [own_lst]
theorem own_lst_at (f : Int32 → Int32) (n k : Nat) (hk : k < n) (g : Int32 → Value) (d : Value) : ((own_lst f n).map g).getD k d = g (f (Int32.ofNat k)) := by
  rw [List.getD_eq_getElem?_getD, own_lst, List.map_map, List.getElem?_map, List.getElem?_range hk]
  rfl
theorem own_lst_mem (f : Int32 → Int32) (n : Nat) {c : Int32} (hc : c ∈ own_lst f n) : ∃ k, k < n ∧ c = f (Int32.ofNat k) := by
  obtain ⟨k, hk, e⟩ := List.mem_map.mp hc
  exact ⟨k, List.mem_range.mp hk, e.symm⟩
theorem own_Arr.arv {n : Nat} (F : own_Arr Z h a ty (Int32.ofNat n) f) (hn : n < 2 ^ 31) (hf : ∀ k, k < n → fits ty (.int (f (Int32.ofNat k))) = true) : ∃ k, Arv Z h a k ty (Int32.ofNat n) ((own_lst f n).map Value.int) (.int 0) := by
  obtain ⟨cl, A, S, M, H⟩ := F
  have S' : cl.slots.size = n := by rw [S, own_toN hn]
  refine ⟨cl.cls, cl, A, rfl, S, M, fun k hk => ?_, fun k hk => ?_⟩
  · have q := H (Int32.ofNat k) (own_nn (by omega)) ((own_nlt (by omega) hn).mpr (by omega))
    rw [own_toN (by omega)] at q
    rw [q, own_lst_at f n k (by omega)]
  · rw [own_lst_at f n k (by omega)]
    exact hf k (by omega)
theorem own_Arr.ofArv {n : Nat} {k : ClassId} {g : Int32 → Int32} {d : Value} (V : Arv Z h a k ty (Int32.ofNat n) (((own_lst f n).map g).map Value.int) d) (hn : n < 2 ^ 31) : own_Arr Z h a ty (Int32.ofNat n) (fun j => g (f j)) := by
  obtain ⟨cl, A, -, S, M, H, -⟩ := V
  refine ⟨cl, A, S, M, fun j h0 h1 => ?_⟩
  have hj : j.toNatClampNeg < n := by
    have q := inb_of S ⟨h0, h1⟩
    rw [S, own_toN hn] at q
    exact Nat.lt_of_not_le fun z => q (Or.inr z)
  have q := H j.toNatClampNeg (by rw [S, own_toN hn]; exact hj)
  rw [List.map_map, own_lst_at f n _ hj] at q
  rw [q, own_ofN h0]
  rfl
theorem own_fitC {z : Int32} (h0 : ¬ z < 0) (h1 : ¬ (255 : Int32) < z) : fits .char (.int z) = true := by
  have e1 : (255 : Int32).toInt = 255 := rfl
  have e0 : (0 : Int32).toInt = 0 := rfl
  have e2 : (65535 : Int32).toInt = 65535 := rfl
  rw [Int32.lt_iff_toInt_lt] at h0 h1
  simp only [fits, Bool.and_eq_true, decide_eq_true_eq]
  exact ⟨Int32.le_iff_toInt_le.mpr (by omega), Int32.le_iff_toInt_le.mpr (by omega)⟩
/-- new String(chars), each 0 to 255, as a call of this layer -/
theorem own_newStr {n W : Nat} {v0 c0 : Value} {z : Int32} (hZ : Z.Warmed39 s.vm) (hws : ∀ d ∈ StrChars.Road.words, d.before a0 Z = true) {kI : Nat} (wi : (Jvm.Cond.instantiable "java/lang/String" kI).before a0 Z = true) (hx0 : n0 ≤ x) (hh0 : n0 ≤ h.size)
    (E : Exa Z h x "java/lang/String") (V : Fld Z h x "java/lang/String" "value" "[B" v0) (C : Fld Z h x "java/lang/String" "coder" "B" c0) (K : own_Arr Z h b .char (Int32.ofNat n) f) (S : Sta Z h "java/lang/String" "COMPACT_STRINGS" "Z" (.int z)) (hz : ¬ z = 0)
    (l0 : 0 < n) (l2 : n ≤ 4000) (hp : ∀ k, k < n → ¬ f (Int32.ofNat k) < 0 ∧ ¬ (255 : Int32) < f (Int32.ofNat k)) (hfr : 4 ≤ R.frames) (hlo : W + 65 ≤ R.locals) :
    own_Bk l R p e below s args n0 (⟨"java/lang/String", "<init>", "([C)V"⟩ : MethodName) W #[.ref x, .ref b] h 1 n (fun v h' => v = none ∧ Keep h h' [x] ∧ Exa Z h' x "java/lang/String" ∧ Fld Z h' x "java/lang/String" "coder" "B" (.int 0) ∧ ∃ t, n0 ≤ t ∧ h.size ≤ t ∧ Fld Z h' x "java/lang/String" "value" "[B" (.ref t) ∧ own_Arr Z h' t .byte (Int32.ofNat n) (fun j => (f j).toInt8.toInt32)) := by
  obtain ⟨kC, KA⟩ := K.arv (by omega) (fun k hk => own_fitC (hp k hk).1 (hp k hk).2)
  refine Back.mono (StrChars.Road.backV (W := W) hZ hws wi (cs := own_lst f n) (n := n) hx0 hh0 E V C KA S hz (own_lst_len f n) rfl l0 l2 (fun c hc => by obtain ⟨k, hk, rfl⟩ := own_lst_mem f n hc; exact hp k hk) rfl hfr hlo) (fun P a q => q) (fun P a v B _ q => ?_)
  obtain ⟨L, ⟨q1, q2, q3, q4, q5, t, kb, q6, q7, q8, q9, q10⟩, r1, r2, r3⟩ := q
  exact ⟨L, ⟨⟨q1, q3, q4, q5, t, q6, q7, q9, own_Arr.ofArv q10 (by omega)⟩, q2⟩, r1, r2, r3⟩
end OwnStr
theorem own_hws {Z : State} {a0 : Array Value} (hw : ∀ d ∈ tables_1, d.before a0 Z = true) : ∀ d ∈ StrChars.Road.words, d.before a0 Z = true := fun d hd => hw d ((by decide +kernel : ∀ d ∈ StrChars.Road.words, d ∈ tables_1) d hd)
theorem ef_1 (m : MethodId) (p0 : Int32) : entryFrame m #[(.int p0)] 1 = mkF m 0 #[.val (.int p0)] [] := by first | (simp [entryFrame, mkF, argsToLocals, Value.category]; done) | rfl
theorem pn_1 : plainName "com/example/vestledger/vestledger/DigitsParsePinLaw" = true := by first | (simp [plainName, overriddenIn]; done) | decide +kernel
theorem d1_0 : decode method_3_code 0 = .ok (.iload_n 0, 1) := by decide +kernel
theorem d1_1 : decode method_3_code 1 = .ok (.iconst 1, 1) := by decide +kernel
theorem d1_2 : decode method_3_code 2 = .ok (.iand, 1) := by decide +kernel
theorem d1_3 : decode method_3_code 3 = .ok (.ifCond .ne 14, 3) := by decide +kernel
theorem d1_6 : decode method_3_code 6 = .ok (.bipush 48, 2) := by decide +kernel
theorem d1_8 : decode method_3_code 8 = .ok (.iload_n 0, 1) := by decide +kernel
theorem d1_9 : decode method_3_code 9 = .ok (.iconst 1, 1) := by decide +kernel
theorem d1_10 : decode method_3_code 10 = .ok (.iushr, 1) := by decide +kernel
theorem d1_11 : decode method_3_code 11 = .ok (.bipush 10, 2) := by decide +kernel
theorem d1_13 : decode method_3_code 13 = .ok (.irem, 1) := by decide +kernel
theorem d1_14 : decode method_3_code 14 = .ok (.iadd, 1) := by decide +kernel
theorem d1_15 : decode method_3_code 15 = .ok (.i2c, 1) := by decide +kernel
theorem d1_16 : decode method_3_code 16 = .ok (.ireturn, 1) := by decide +kernel
theorem d1_17 : decode method_3_code 17 = .ok (.iload_n 0, 1) := by decide +kernel
theorem d1_18 : decode method_3_code 18 = .ok (.iconst 1, 1) := by decide +kernel
theorem d1_19 : decode method_3_code 19 = .ok (.iushr, 1) := by decide +kernel
theorem d1_20 : decode method_3_code 20 = .ok (.sipush 255, 3) := by decide +kernel
theorem d1_23 : decode method_3_code 23 = .ok (.iand, 1) := by decide +kernel
theorem d1_24 : decode method_3_code 24 = .ok (.i2c, 1) := by decide +kernel
theorem d1_25 : decode method_3_code 25 = .ok (.ireturn, 1) := by decide +kernel
def f1 (p0 : Int32) : Int32 := (if (p0 &&& (1 : Int32)) = (0 : Int32) then (nar .char (((48 : Int32) + (((p0.toUInt32 >>> ((1 : Int32) &&& 31).toUInt32).toInt32) % (10 : Int32))).toUInt32.toUInt16.toUInt32.toInt32)) else (nar .char ((((p0.toUInt32 >>> ((1 : Int32) &&& 31).toUInt32).toInt32) &&& (255 : Int32)).toUInt32.toUInt16.toUInt32.toInt32)))
set_option maxRecDepth 65536 in
set_option maxHeartbeats 40000000 in
theorem rm1 (l : Launch) (Z : State) (a0 : Array Value) (hw : ∀ d ∈ tables_1, d.before a0 Z = true) (p0 : Int32) (h0 : Heap) (n0 : Nat) :
    own_Met l Z n0 (⟨"com/example/vestledger/vestledger/DigitsParsePinLaw", "draw", "(I)C"⟩ : MethodName) method_3_code 1 (some .char) ({ frames := 0, cells := 0, slots := 0, locals := 0 } : Room) #[(.int p0)] h0 (fun v h => v = some (.int (f1 p0)) ∧ h0 = h) := by
  refine own_met (plainFor_of_name pn_1) ?_
  intro p e s m below meth c T0 hx hby hml hown hnm hret hlk hZ A0
  rw [ef_1]
  show own_Go _ _ _ _ (T0.setTop (mkF m 0 #[.val (.int p0)] []))
  refine own_go (fun t_ k_ => XS.iloadN A0.here hx rfl (hb hby d1_0) rfl k_) ?_
  show own_Go _ _ _ _ (T0.setTop (mkF m 1 #[.val (.int p0)] [(.int p0)]))
  refine own_go (fun t_ k_ => XS.iconst A0.here hx rfl (hb hby d1_1) k_) ?_
  show own_Go _ _ _ _ (T0.setTop (mkF m 2 #[.val (.int p0)] [(.int (1 : Int32)), (.int p0)]))
  refine own_go (fun t_ k_ => XS.iand A0.here hx rfl (hb hby d1_2) rfl k_) ?_
  show own_Go _ _ _ _ (T0.setTop (mkF m 3 #[.val (.int p0)] [(.int (p0 &&& (1 : Int32)))]))
  by_cases hc1 : (p0 &&& (1 : Int32)) = (0 : Int32)
  ·
    refine own_go (fun t_ k_ => XS.ifNo A0.here hx rfl (hb hby d1_3) rfl ((if0 _ _).trans (teq hc1).2) k_) ?_
    show own_Go _ _ _ _ (T0.setTop (mkF m 6 #[.val (.int p0)] []))
    refine own_go (fun t_ k_ => XS.bipush A0.here hx rfl (hb hby d1_6) k_) ?_
    show own_Go _ _ _ _ (T0.setTop (mkF m 8 #[.val (.int p0)] [(.int (48 : Int32))]))
    refine own_go (fun t_ k_ => XS.iloadN A0.here hx rfl (hb hby d1_8) rfl k_) ?_
    show own_Go _ _ _ _ (T0.setTop (mkF m 9 #[.val (.int p0)] [(.int p0), (.int (48 : Int32))]))
    refine own_go (fun t_ k_ => XS.iconst A0.here hx rfl (hb hby d1_9) k_) ?_
    show own_Go _ _ _ _ (T0.setTop (mkF m 10 #[.val (.int p0)] [(.int (1 : Int32)), (.int p0), (.int (48 : Int32))]))
    refine own_go (fun t_ k_ => XS.iushr A0.here hx rfl (hb hby d1_10) rfl k_) ?_
    show own_Go _ _ _ _ (T0.setTop (mkF m 11 #[.val (.int p0)] [(.int ((p0.toUInt32 >>> ((1 : Int32) &&& 31).toUInt32).toInt32)), (.int (48 : Int32))]))
    refine own_go (fun t_ k_ => XS.bipush A0.here hx rfl (hb hby d1_11) k_) ?_
    show own_Go _ _ _ _ (T0.setTop (mkF m 13 #[.val (.int p0)] [(.int (10 : Int32)), (.int ((p0.toUInt32 >>> ((1 : Int32) &&& 31).toUInt32).toInt32)), (.int (48 : Int32))]))
    refine own_go (fun t_ k_ => own_irem A0.here hx rfl (hb hby d1_13) rfl (by decide) k_) ?_
    show own_Go _ _ _ _ (T0.setTop (mkF m 14 #[.val (.int p0)] [(.int (((p0.toUInt32 >>> ((1 : Int32) &&& 31).toUInt32).toInt32) % (10 : Int32))), (.int (48 : Int32))]))
    generalize hx2 : (((p0.toUInt32 >>> ((1 : Int32) &&& 31).toUInt32).toInt32) % (10 : Int32)) = x2
    show own_Go _ _ _ _ (T0.setTop (mkF m 14 #[.val (.int p0)] [(.int x2), (.int (48 : Int32))]))
    refine own_go (fun t_ k_ => XS.iadd A0.here hx rfl (hb hby d1_14) rfl k_) ?_
    show own_Go _ _ _ _ (T0.setTop (mkF m 15 #[.val (.int p0)] [(.int ((48 : Int32) + x2))]))
    refine own_go (fun t_ k_ => XS.i2c A0.here hx rfl (hb hby d1_15) rfl k_) ?_
    show own_Go _ _ _ _ (T0.setTop (mkF m 16 #[.val (.int p0)] [(.int (((48 : Int32) + x2).toUInt32.toUInt16.toUInt32.toInt32))]))
    refine own_retN A0 hx (t := .char) hret (by simp) hlk (by decide) (by decide) (hb hby d1_16) ?_
    subst hx2
    exact ⟨congrArg (fun z => some (Value.int z)) (by simp only [f1, if_pos hc1]), rfl⟩
  ·
    refine own_go (fun t_ k_ => XS.ifYes A0.here hx rfl (pc0 := 3) (pc' := 17) rfl (hb hby d1_3) rfl ((if0 _ _).trans (feq hc1).2) (by decide) (by decide) k_) ?_
    show own_Go _ _ _ _ (T0.setTop (mkF m 17 #[.val (.int p0)] []))
    refine own_go (fun t_ k_ => XS.iloadN A0.here hx rfl (hb hby d1_17) rfl k_) ?_
    show own_Go _ _ _ _ (T0.setTop (mkF m 18 #[.val (.int p0)] [(.int p0)]))
    refine own_go (fun t_ k_ => XS.iconst A0.here hx rfl (hb hby d1_18) k_) ?_
    show own_Go _ _ _ _ (T0.setTop (mkF m 19 #[.val (.int p0)] [(.int (1 : Int32)), (.int p0)]))
    refine own_go (fun t_ k_ => XS.iushr A0.here hx rfl (hb hby d1_19) rfl k_) ?_
    show own_Go _ _ _ _ (T0.setTop (mkF m 20 #[.val (.int p0)] [(.int ((p0.toUInt32 >>> ((1 : Int32) &&& 31).toUInt32).toInt32))]))
    refine own_go (fun t_ k_ => XS.sipush A0.here hx rfl (hb hby d1_20) k_) ?_
    show own_Go _ _ _ _ (T0.setTop (mkF m 23 #[.val (.int p0)] [(.int (255 : Int32)), (.int ((p0.toUInt32 >>> ((1 : Int32) &&& 31).toUInt32).toInt32))]))
    refine own_go (fun t_ k_ => XS.iand A0.here hx rfl (hb hby d1_23) rfl k_) ?_
    show own_Go _ _ _ _ (T0.setTop (mkF m 24 #[.val (.int p0)] [(.int (((p0.toUInt32 >>> ((1 : Int32) &&& 31).toUInt32).toInt32) &&& (255 : Int32)))]))
    generalize hx3 : (((p0.toUInt32 >>> ((1 : Int32) &&& 31).toUInt32).toInt32) &&& (255 : Int32)) = x3
    show own_Go _ _ _ _ (T0.setTop (mkF m 24 #[.val (.int p0)] [(.int x3)]))
    refine own_go (fun t_ k_ => XS.i2c A0.here hx rfl (hb hby d1_24) rfl k_) ?_
    show own_Go _ _ _ _ (T0.setTop (mkF m 25 #[.val (.int p0)] [(.int (x3.toUInt32.toUInt16.toUInt32.toInt32))]))
    refine own_retN A0 hx (t := .char) hret (by simp) hlk (by decide) (by decide) (hb hby d1_25) ?_
    subst hx3
    exact ⟨congrArg (fun z => some (Value.int z)) (by simp only [f1, if_neg hc1]), rfl⟩
theorem ef_8 (m : MethodId) (p0 : Int32) (p1 : Int32) : entryFrame m #[(.int p0), (.int p1)] 2 = mkF m 0 #[.val (.int p0), .val (.int p1)] [] := by first | (simp [entryFrame, mkF, argsToLocals, Value.category]; done) | rfl
theorem pf_8 : plainFor (⟨"java/lang/Math", "min", "(II)I"⟩ : MethodName) = true := by decide +kernel
theorem d8_0 : decode jdk_29_method_69_code 0 = .ok (.iload_n 0, 1) := by decide +kernel
theorem d8_1 : decode jdk_29_method_69_code 1 = .ok (.iload_n 1, 1) := by decide +kernel
theorem d8_2 : decode jdk_29_method_69_code 2 = .ok (.if_icmp .gt 7, 3) := by decide +kernel
theorem d8_9 : decode jdk_29_method_69_code 9 = .ok (.iload_n 1, 1) := by decide +kernel
theorem d8_5 : decode jdk_29_method_69_code 5 = .ok (.iload_n 0, 1) := by decide +kernel
theorem d8_6 : decode jdk_29_method_69_code 6 = .ok (.goto 4, 3) := by decide +kernel
theorem d8_10 : decode jdk_29_method_69_code 10 = .ok (.ireturn, 1) := by decide +kernel
def f8 (p0 : Int32) (p1 : Int32) : Int32 := (if p1 < p0 then p1 else p0)
set_option maxRecDepth 65536 in
set_option maxHeartbeats 40000000 in
theorem rm8 (l : Launch) (Z : State) (a0 : Array Value) (hw : ∀ d ∈ tables_1, d.before a0 Z = true) (p0 : Int32) (p1 : Int32) (h0 : Heap) (n0 : Nat) :
    own_Met l Z n0 (⟨"java/lang/Math", "min", "(II)I"⟩ : MethodName) jdk_29_method_69_code 2 (some .int) ({ frames := 0, cells := 0, slots := 0, locals := 0 } : Room) #[(.int p0), (.int p1)] h0 (fun v h => v = some (.int (f8 p0 p1)) ∧ h0 = h) := by
  refine own_met pf_8 ?_
  intro p e s m below meth c T0 hx hby hml hown hnm hret hlk hZ A0
  rw [ef_8]
  show own_Go _ _ _ _ (T0.setTop (mkF m 0 #[.val (.int p0), .val (.int p1)] []))
  refine own_go (fun t_ k_ => XS.iloadN A0.here hx rfl (hb hby d8_0) rfl k_) ?_
  show own_Go _ _ _ _ (T0.setTop (mkF m 1 #[.val (.int p0), .val (.int p1)] [(.int p0)]))
  refine own_go (fun t_ k_ => XS.iloadN A0.here hx rfl (hb hby d8_1) rfl k_) ?_
  show own_Go _ _ _ _ (T0.setTop (mkF m 2 #[.val (.int p0), .val (.int p1)] [(.int p1), (.int p0)]))
  have mg1 : ∀ t_, Steps p.tables e below (T0.setTop (mkF m 10 #[.val (.int p0), .val (.int p1)] [(.int (if p1 < p0 then p1 else p0))])) t_ → Steps p.tables e below (T0.setTop (mkF m 2 #[.val (.int p0), .val (.int p1)] [(.int p1), (.int p0)])) t_ := by
    intro t_ k_
    by_cases hm2_0 : p1 < p0
    ·
      simp only [if_pos hm2_0] at k_
      exact (XS.icmpYes A0.here hx rfl (pc0 := 2) (pc' := 9) rfl (hb hby d8_2) rfl (tlt hm2_0).2.2.1 (by decide) (by decide) (XS.iloadN A0.here hx rfl (hb hby d8_9) rfl k_))
    ·
      simp only [if_neg hm2_0] at k_
      exact (XS.icmpNo A0.here hx rfl (hb hby d8_2) rfl (flt hm2_0).2.2.1 (XS.iloadN A0.here hx rfl (hb hby d8_5) rfl (XS.goto A0.here hx rfl (pc0 := 6) (pc' := 10) rfl (hb hby d8_6) (by decide) (by decide) k_)))
  refine own_go mg1 ?_
  show own_Go _ _ _ _ (T0.setTop (mkF m 10 #[.val (.int p0), .val (.int p1)] [(.int (if p1 < p0 then p1 else p0))]))
  refine own_retI A0 hx hret hlk (by decide) (by decide) (hb hby d8_10) ?_
  exact ⟨rfl, rfl⟩
theorem ef_9 (m : MethodId) (p0 : Int32) (p1 : Int32) : entryFrame m #[(.int p0), (.int p1)] 2 = mkF m 0 #[.val (.int p0), .val (.int p1)] [] := by first | (simp [entryFrame, mkF, argsToLocals, Value.category]; done) | rfl
theorem pf_9 : plainFor (⟨"java/lang/Math", "max", "(II)I"⟩ : MethodName) = true := by decide +kernel
theorem d9_0 : decode jdk_29_method_65_code 0 = .ok (.iload_n 0, 1) := by decide +kernel
theorem d9_1 : decode jdk_29_method_65_code 1 = .ok (.iload_n 1, 1) := by decide +kernel
theorem d9_2 : decode jdk_29_method_65_code 2 = .ok (.if_icmp .lt 7, 3) := by decide +kernel
theorem d9_9 : decode jdk_29_method_65_code 9 = .ok (.iload_n 1, 1) := by decide +kernel
theorem d9_5 : decode jdk_29_method_65_code 5 = .ok (.iload_n 0, 1) := by decide +kernel
theorem d9_6 : decode jdk_29_method_65_code 6 = .ok (.goto 4, 3) := by decide +kernel
theorem d9_10 : decode jdk_29_method_65_code 10 = .ok (.ireturn, 1) := by decide +kernel
def f9 (p0 : Int32) (p1 : Int32) : Int32 := (if p0 < p1 then p1 else p0)
set_option maxRecDepth 65536 in
set_option maxHeartbeats 40000000 in
theorem rm9 (l : Launch) (Z : State) (a0 : Array Value) (hw : ∀ d ∈ tables_1, d.before a0 Z = true) (p0 : Int32) (p1 : Int32) (h0 : Heap) (n0 : Nat) :
    own_Met l Z n0 (⟨"java/lang/Math", "max", "(II)I"⟩ : MethodName) jdk_29_method_65_code 2 (some .int) ({ frames := 0, cells := 0, slots := 0, locals := 0 } : Room) #[(.int p0), (.int p1)] h0 (fun v h => v = some (.int (f9 p0 p1)) ∧ h0 = h) := by
  refine own_met pf_9 ?_
  intro p e s m below meth c T0 hx hby hml hown hnm hret hlk hZ A0
  rw [ef_9]
  show own_Go _ _ _ _ (T0.setTop (mkF m 0 #[.val (.int p0), .val (.int p1)] []))
  refine own_go (fun t_ k_ => XS.iloadN A0.here hx rfl (hb hby d9_0) rfl k_) ?_
  show own_Go _ _ _ _ (T0.setTop (mkF m 1 #[.val (.int p0), .val (.int p1)] [(.int p0)]))
  refine own_go (fun t_ k_ => XS.iloadN A0.here hx rfl (hb hby d9_1) rfl k_) ?_
  show own_Go _ _ _ _ (T0.setTop (mkF m 2 #[.val (.int p0), .val (.int p1)] [(.int p1), (.int p0)]))
  have mg1 : ∀ t_, Steps p.tables e below (T0.setTop (mkF m 10 #[.val (.int p0), .val (.int p1)] [(.int (if p0 < p1 then p1 else p0))])) t_ → Steps p.tables e below (T0.setTop (mkF m 2 #[.val (.int p0), .val (.int p1)] [(.int p1), (.int p0)])) t_ := by
    intro t_ k_
    by_cases hm2_0 : p0 < p1
    ·
      simp only [if_pos hm2_0] at k_
      exact (XS.icmpYes A0.here hx rfl (pc0 := 2) (pc' := 9) rfl (hb hby d9_2) rfl (tlt hm2_0).1 (by decide) (by decide) (XS.iloadN A0.here hx rfl (hb hby d9_9) rfl k_))
    ·
      simp only [if_neg hm2_0] at k_
      exact (XS.icmpNo A0.here hx rfl (hb hby d9_2) rfl (flt hm2_0).1 (XS.iloadN A0.here hx rfl (hb hby d9_5) rfl (XS.goto A0.here hx rfl (pc0 := 6) (pc' := 10) rfl (hb hby d9_6) (by decide) (by decide) k_)))
  refine own_go mg1 ?_
  show own_Go _ _ _ _ (T0.setTop (mkF m 10 #[.val (.int p0), .val (.int p1)] [(.int (if p0 < p1 then p1 else p0))]))
  refine own_retI A0 hx hret hlk (by decide) (by decide) (hb hby d9_10) ?_
  exact ⟨rfl, rfl⟩
theorem ef_12 (m : MethodId) (p0 : Int32) : entryFrame m #[(.int p0)] 1 = mkF m 0 #[.val (.int p0)] [] := by first | (simp [entryFrame, mkF, argsToLocals, Value.category]; done) | rfl
theorem d12_0 : decode method_4_code 0 = .ok (.iload_n 0, 1) := by decide +kernel
theorem d12_1 : decode method_4_code 1 = .ok (.bipush 48, 2) := by decide +kernel
theorem d12_3 : decode method_4_code 3 = .ok (.if_icmp .lt 14, 3) := by decide +kernel
theorem d12_17 : decode method_4_code 17 = .ok (.iconst (-1), 1) := by decide +kernel
theorem d12_18 : decode method_4_code 18 = .ok (.ireturn, 1) := by decide +kernel
theorem d12_6 : decode method_4_code 6 = .ok (.iload_n 0, 1) := by decide +kernel
theorem d12_7 : decode method_4_code 7 = .ok (.bipush 57, 2) := by decide +kernel
theorem d12_9 : decode method_4_code 9 = .ok (.if_icmp .gt 8, 3) := by decide +kernel
theorem d12_12 : decode method_4_code 12 = .ok (.iload_n 0, 1) := by decide +kernel
theorem d12_13 : decode method_4_code 13 = .ok (.bipush 48, 2) := by decide +kernel
theorem d12_15 : decode method_4_code 15 = .ok (.isub, 1) := by decide +kernel
theorem d12_16 : decode method_4_code 16 = .ok (.ireturn, 1) := by decide +kernel
def f12 (p0 : Int32) : Int32 := (if p0 < (48 : Int32) then (-1 : Int32) else (if (57 : Int32) < p0 then (-1 : Int32) else (p0 - (48 : Int32))))
set_option maxRecDepth 65536 in
set_option maxHeartbeats 40000000 in
theorem rm12 (l : Launch) (Z : State) (a0 : Array Value) (hw : ∀ d ∈ tables_1, d.before a0 Z = true) (p0 : Int32) (h0 : Heap) (n0 : Nat) :
    own_Met l Z n0 (⟨"com/example/vestledger/vestledger/DigitsParsePinLaw", "digitValue", "(C)I"⟩ : MethodName) method_4_code 1 (some .int) ({ frames := 0, cells := 0, slots := 0, locals := 0 } : Room) #[(.int p0)] h0 (fun v h => v = some (.int (f12 p0)) ∧ h0 = h) := by
  refine own_met (plainFor_of_name pn_1) ?_
  intro p e s m below meth c T0 hx hby hml hown hnm hret hlk hZ A0
  rw [ef_12]
  show own_Go _ _ _ _ (T0.setTop (mkF m 0 #[.val (.int p0)] []))
  refine own_go (fun t_ k_ => XS.iloadN A0.here hx rfl (hb hby d12_0) rfl k_) ?_
  show own_Go _ _ _ _ (T0.setTop (mkF m 1 #[.val (.int p0)] [(.int p0)]))
  refine own_go (fun t_ k_ => XS.bipush A0.here hx rfl (hb hby d12_1) k_) ?_
  show own_Go _ _ _ _ (T0.setTop (mkF m 3 #[.val (.int p0)] [(.int (48 : Int32)), (.int p0)]))
  by_cases hc1 : p0 < (48 : Int32)
  ·
    refine own_go (fun t_ k_ => XS.icmpYes A0.here hx rfl (pc0 := 3) (pc' := 17) rfl (hb hby d12_3) rfl (tlt hc1).1 (by decide) (by decide) k_) ?_
    show own_Go _ _ _ _ (T0.setTop (mkF m 17 #[.val (.int p0)] []))
    refine own_go (fun t_ k_ => XS.iconst A0.here hx rfl (hb hby d12_17) k_) ?_
    show own_Go _ _ _ _ (T0.setTop (mkF m 18 #[.val (.int p0)] [(.int (-1 : Int32))]))
    refine own_retI A0 hx hret hlk (by decide) (by decide) (hb hby d12_18) ?_
    exact ⟨congrArg (fun z => some (Value.int z)) (by simp only [f12, if_pos hc1]), rfl⟩
  ·
    refine own_go (fun t_ k_ => XS.icmpNo A0.here hx rfl (hb hby d12_3) rfl (flt hc1).1 k_) ?_
    show own_Go _ _ _ _ (T0.setTop (mkF m 6 #[.val (.int p0)] []))
    refine own_go (fun t_ k_ => XS.iloadN A0.here hx rfl (hb hby d12_6) rfl k_) ?_
    show own_Go _ _ _ _ (T0.setTop (mkF m 7 #[.val (.int p0)] [(.int p0)]))
    refine own_go (fun t_ k_ => XS.bipush A0.here hx rfl (hb hby d12_7) k_) ?_
    show own_Go _ _ _ _ (T0.setTop (mkF m 9 #[.val (.int p0)] [(.int (57 : Int32)), (.int p0)]))
    by_cases hc2 : (57 : Int32) < p0
    ·
      refine own_go (fun t_ k_ => XS.icmpYes A0.here hx rfl (pc0 := 9) (pc' := 17) rfl (hb hby d12_9) rfl (tlt hc2).2.2.1 (by decide) (by decide) k_) ?_
      show own_Go _ _ _ _ (T0.setTop (mkF m 17 #[.val (.int p0)] []))
      refine own_go (fun t_ k_ => XS.iconst A0.here hx rfl (hb hby d12_17) k_) ?_
      show own_Go _ _ _ _ (T0.setTop (mkF m 18 #[.val (.int p0)] [(.int (-1 : Int32))]))
      refine own_retI A0 hx hret hlk (by decide) (by decide) (hb hby d12_18) ?_
      exact ⟨congrArg (fun z => some (Value.int z)) (by simp only [f12, if_neg hc1, if_pos hc2]), rfl⟩
    ·
      refine own_go (fun t_ k_ => XS.icmpNo A0.here hx rfl (hb hby d12_9) rfl (flt hc2).2.2.1 k_) ?_
      show own_Go _ _ _ _ (T0.setTop (mkF m 12 #[.val (.int p0)] []))
      refine own_go (fun t_ k_ => XS.iloadN A0.here hx rfl (hb hby d12_12) rfl k_) ?_
      show own_Go _ _ _ _ (T0.setTop (mkF m 13 #[.val (.int p0)] [(.int p0)]))
      refine own_go (fun t_ k_ => XS.bipush A0.here hx rfl (hb hby d12_13) k_) ?_
      show own_Go _ _ _ _ (T0.setTop (mkF m 15 #[.val (.int p0)] [(.int (48 : Int32)), (.int p0)]))
      refine own_go (fun t_ k_ => XS.isub A0.here hx rfl (hb hby d12_15) rfl k_) ?_
      show own_Go _ _ _ _ (T0.setTop (mkF m 16 #[.val (.int p0)] [(.int (p0 - (48 : Int32)))]))
      refine own_retI A0 hx hret hlk (by decide) (by decide) (hb hby d12_16) ?_
      exact ⟨congrArg (fun z => some (Value.int z)) (by simp only [f12, if_neg hc1, if_neg hc2]), rfl⟩
theorem ef_19 (m : MethodId) (p0 : Int32) : entryFrame m #[(.int p0)] 1 = mkF m 0 #[.val (.int p0)] [] := by first | (simp [entryFrame, mkF, argsToLocals, Value.category]; done) | rfl
theorem d19_0 : decode method_5_code 0 = .ok (.iload_n 0, 1) := by decide +kernel
theorem d19_1 : decode method_5_code 1 = .ok (.ifCond .ne 5, 3) := by decide +kernel
theorem d19_4 : decode method_5_code 4 = .ok (.iconst 1, 1) := by decide +kernel
theorem d19_5 : decode method_5_code 5 = .ok (.ireturn, 1) := by decide +kernel
theorem d19_6 : decode method_5_code 6 = .ok (.iload_n 0, 1) := by decide +kernel
theorem d19_7 : decode method_5_code 7 = .ok (.iconst 1, 1) := by decide +kernel
theorem d19_8 : decode method_5_code 8 = .ok (.if_icmp .ne 6, 3) := by decide +kernel
theorem d19_11 : decode method_5_code 11 = .ok (.bipush 10, 2) := by decide +kernel
theorem d19_13 : decode method_5_code 13 = .ok (.ireturn, 1) := by decide +kernel
theorem d19_14 : decode method_5_code 14 = .ok (.iload_n 0, 1) := by decide +kernel
theorem d19_15 : decode method_5_code 15 = .ok (.iconst 2, 1) := by decide +kernel
theorem d19_16 : decode method_5_code 16 = .ok (.if_icmp .ne 6, 3) := by decide +kernel
theorem d19_19 : decode method_5_code 19 = .ok (.bipush 100, 2) := by decide +kernel
theorem d19_21 : decode method_5_code 21 = .ok (.ireturn, 1) := by decide +kernel
theorem d19_22 : decode method_5_code 22 = .ok (.iload_n 0, 1) := by decide +kernel
theorem d19_23 : decode method_5_code 23 = .ok (.iconst 3, 1) := by decide +kernel
theorem d19_24 : decode method_5_code 24 = .ok (.if_icmp .ne 7, 3) := by decide +kernel
theorem d19_27 : decode method_5_code 27 = .ok (.sipush 1000, 3) := by decide +kernel
theorem d19_30 : decode method_5_code 30 = .ok (.ireturn, 1) := by decide +kernel
theorem d19_31 : decode method_5_code 31 = .ok (.sipush 10000, 3) := by decide +kernel
theorem d19_34 : decode method_5_code 34 = .ok (.ireturn, 1) := by decide +kernel
def f19 (p0 : Int32) : Int32 := (if p0 = (0 : Int32) then (1 : Int32) else (if p0 = (1 : Int32) then (10 : Int32) else (if p0 = (2 : Int32) then (100 : Int32) else (if p0 = (3 : Int32) then (1000 : Int32) else (10000 : Int32)))))
set_option maxRecDepth 65536 in
set_option maxHeartbeats 40000000 in
theorem rm19 (l : Launch) (Z : State) (a0 : Array Value) (hw : ∀ d ∈ tables_1, d.before a0 Z = true) (p0 : Int32) (h0 : Heap) (n0 : Nat) :
    own_Met l Z n0 (⟨"com/example/vestledger/vestledger/DigitsParsePinLaw", "pow10", "(I)I"⟩ : MethodName) method_5_code 1 (some .int) ({ frames := 0, cells := 0, slots := 0, locals := 0 } : Room) #[(.int p0)] h0 (fun v h => v = some (.int (f19 p0)) ∧ h0 = h) := by
  refine own_met (plainFor_of_name pn_1) ?_
  intro p e s m below meth c T0 hx hby hml hown hnm hret hlk hZ A0
  rw [ef_19]
  show own_Go _ _ _ _ (T0.setTop (mkF m 0 #[.val (.int p0)] []))
  refine own_go (fun t_ k_ => XS.iloadN A0.here hx rfl (hb hby d19_0) rfl k_) ?_
  show own_Go _ _ _ _ (T0.setTop (mkF m 1 #[.val (.int p0)] [(.int p0)]))
  by_cases hc1 : p0 = (0 : Int32)
  ·
    refine own_go (fun t_ k_ => XS.ifNo A0.here hx rfl (hb hby d19_1) rfl ((if0 _ _).trans (teq hc1).2) k_) ?_
    show own_Go _ _ _ _ (T0.setTop (mkF m 4 #[.val (.int p0)] []))
    refine own_go (fun t_ k_ => XS.iconst A0.here hx rfl (hb hby d19_4) k_) ?_
    show own_Go _ _ _ _ (T0.setTop (mkF m 5 #[.val (.int p0)] [(.int (1 : Int32))]))
    refine own_retI A0 hx hret hlk (by decide) (by decide) (hb hby d19_5) ?_
    exact ⟨congrArg (fun z => some (Value.int z)) (by simp only [f19, if_pos hc1]), rfl⟩
  ·
    refine own_go (fun t_ k_ => XS.ifYes A0.here hx rfl (pc0 := 1) (pc' := 6) rfl (hb hby d19_1) rfl ((if0 _ _).trans (feq hc1).2) (by decide) (by decide) k_) ?_
    show own_Go _ _ _ _ (T0.setTop (mkF m 6 #[.val (.int p0)] []))
    refine own_go (fun t_ k_ => XS.iloadN A0.here hx rfl (hb hby d19_6) rfl k_) ?_
    show own_Go _ _ _ _ (T0.setTop (mkF m 7 #[.val (.int p0)] [(.int p0)]))
    refine own_go (fun t_ k_ => XS.iconst A0.here hx rfl (hb hby d19_7) k_) ?_
    show own_Go _ _ _ _ (T0.setTop (mkF m 8 #[.val (.int p0)] [(.int (1 : Int32)), (.int p0)]))
    by_cases hc2 : p0 = (1 : Int32)
    ·
      refine own_go (fun t_ k_ => XS.icmpNo A0.here hx rfl (hb hby d19_8) rfl (teq hc2).2 k_) ?_
      show own_Go _ _ _ _ (T0.setTop (mkF m 11 #[.val (.int p0)] []))
      refine own_go (fun t_ k_ => XS.bipush A0.here hx rfl (hb hby d19_11) k_) ?_
      show own_Go _ _ _ _ (T0.setTop (mkF m 13 #[.val (.int p0)] [(.int (10 : Int32))]))
      refine own_retI A0 hx hret hlk (by decide) (by decide) (hb hby d19_13) ?_
      exact ⟨congrArg (fun z => some (Value.int z)) (by simp only [f19, if_neg hc1, if_pos hc2]), rfl⟩
    ·
      refine own_go (fun t_ k_ => XS.icmpYes A0.here hx rfl (pc0 := 8) (pc' := 14) rfl (hb hby d19_8) rfl (feq hc2).2 (by decide) (by decide) k_) ?_
      show own_Go _ _ _ _ (T0.setTop (mkF m 14 #[.val (.int p0)] []))
      refine own_go (fun t_ k_ => XS.iloadN A0.here hx rfl (hb hby d19_14) rfl k_) ?_
      show own_Go _ _ _ _ (T0.setTop (mkF m 15 #[.val (.int p0)] [(.int p0)]))
      refine own_go (fun t_ k_ => XS.iconst A0.here hx rfl (hb hby d19_15) k_) ?_
      show own_Go _ _ _ _ (T0.setTop (mkF m 16 #[.val (.int p0)] [(.int (2 : Int32)), (.int p0)]))
      by_cases hc3 : p0 = (2 : Int32)
      ·
        refine own_go (fun t_ k_ => XS.icmpNo A0.here hx rfl (hb hby d19_16) rfl (teq hc3).2 k_) ?_
        show own_Go _ _ _ _ (T0.setTop (mkF m 19 #[.val (.int p0)] []))
        refine own_go (fun t_ k_ => XS.bipush A0.here hx rfl (hb hby d19_19) k_) ?_
        show own_Go _ _ _ _ (T0.setTop (mkF m 21 #[.val (.int p0)] [(.int (100 : Int32))]))
        refine own_retI A0 hx hret hlk (by decide) (by decide) (hb hby d19_21) ?_
        exact ⟨congrArg (fun z => some (Value.int z)) (by simp only [f19, if_neg hc1, if_neg hc2, if_pos hc3]), rfl⟩
      ·
        refine own_go (fun t_ k_ => XS.icmpYes A0.here hx rfl (pc0 := 16) (pc' := 22) rfl (hb hby d19_16) rfl (feq hc3).2 (by decide) (by decide) k_) ?_
        show own_Go _ _ _ _ (T0.setTop (mkF m 22 #[.val (.int p0)] []))
        refine own_go (fun t_ k_ => XS.iloadN A0.here hx rfl (hb hby d19_22) rfl k_) ?_
        show own_Go _ _ _ _ (T0.setTop (mkF m 23 #[.val (.int p0)] [(.int p0)]))
        refine own_go (fun t_ k_ => XS.iconst A0.here hx rfl (hb hby d19_23) k_) ?_
        show own_Go _ _ _ _ (T0.setTop (mkF m 24 #[.val (.int p0)] [(.int (3 : Int32)), (.int p0)]))
        by_cases hc4 : p0 = (3 : Int32)
        ·
          refine own_go (fun t_ k_ => XS.icmpNo A0.here hx rfl (hb hby d19_24) rfl (teq hc4).2 k_) ?_
          show own_Go _ _ _ _ (T0.setTop (mkF m 27 #[.val (.int p0)] []))
          refine own_go (fun t_ k_ => XS.sipush A0.here hx rfl (hb hby d19_27) k_) ?_
          show own_Go _ _ _ _ (T0.setTop (mkF m 30 #[.val (.int p0)] [(.int (1000 : Int32))]))
          refine own_retI A0 hx hret hlk (by decide) (by decide) (hb hby d19_30) ?_
          exact ⟨congrArg (fun z => some (Value.int z)) (by simp only [f19, if_neg hc1, if_neg hc2, if_neg hc3, if_pos hc4]), rfl⟩
        ·
          refine own_go (fun t_ k_ => XS.icmpYes A0.here hx rfl (pc0 := 24) (pc' := 31) rfl (hb hby d19_24) rfl (feq hc4).2 (by decide) (by decide) k_) ?_
          show own_Go _ _ _ _ (T0.setTop (mkF m 31 #[.val (.int p0)] []))
          refine own_go (fun t_ k_ => XS.sipush A0.here hx rfl (hb hby d19_31) k_) ?_
          show own_Go _ _ _ _ (T0.setTop (mkF m 34 #[.val (.int p0)] [(.int (10000 : Int32))]))
          refine own_retI A0 hx hret hlk (by decide) (by decide) (hb hby d19_34) ?_
          exact ⟨congrArg (fun z => some (Value.int z)) (by simp only [f19, if_neg hc1, if_neg hc2, if_neg hc3, if_neg hc4]), rfl⟩
theorem own_in5 {a b c : Int32} (h1 : ¬ b < 0) (h2 : ¬ (5 : Int32) < c) (h3 : ¬ a < b) (h4 : a < c) : ¬ a < 0 ∧ a < (5 : Int32) := by
  rw [Int32.lt_iff_toInt_lt] at *
  rw [Int32.lt_iff_toInt_lt]
  omega
theorem ef_11 (m : MethodId) (r0 : Addr) (p1 : Int32) (p2 : Int32) (p3 : Int32) : entryFrame m #[(.ref r0), (.int p1), (.int p2), (.int p3)] 5 = mkF m 0 #[.val (.ref r0), .val (.int p1), .val (.int p2), .val (.int p3), .unset] [] := by first | (simp [entryFrame, mkF, argsToLocals, Value.category]; done) | rfl
theorem d11_0 : decode method_6_code 0 = .ok (.iload_n 1, 1) := by decide +kernel
theorem d11_1 : decode method_6_code 1 = .ok (.iload_n 2, 1) := by decide +kernel
theorem d11_2 : decode method_6_code 2 = .ok (.if_icmp .lt 8, 3) := by decide +kernel
theorem d11_10 : decode method_6_code 10 = .ok (.iconst 0, 1) := by decide +kernel
theorem d11_11 : decode method_6_code 11 = .ok (.ireturn, 1) := by decide +kernel
theorem d11_5 : decode method_6_code 5 = .ok (.iload_n 1, 1) := by decide +kernel
theorem d11_6 : decode method_6_code 6 = .ok (.iload_n 3, 1) := by decide +kernel
theorem d11_7 : decode method_6_code 7 = .ok (.if_icmp .lt 5, 3) := by decide +kernel
theorem d11_12 : decode method_6_code 12 = .ok (.aload_n 0, 1) := by decide +kernel
theorem d11_13 : decode method_6_code 13 = .ok (.iload_n 1, 1) := by decide +kernel
theorem d11_14 : decode method_6_code 14 = .ok (.caload, 1) := by decide +kernel
theorem d11_15 : decode method_6_code 15 = .ok (.invokestatic 41, 3) := by decide +kernel
theorem pd__C_I : parseMethodDescriptor "(C)I" = some ⟨[.char], some .int⟩ := by decide +kernel
theorem d11_18 : decode method_6_code 18 = .ok (.istore 4, 2) := by decide +kernel
theorem d11_20 : decode method_6_code 20 = .ok (.iload 4, 2) := by decide +kernel
theorem d11_22 : decode method_6_code 22 = .ok (.ifCond .ge 5, 3) := by decide +kernel
theorem d11_25 : decode method_6_code 25 = .ok (.iconst (-1), 1) := by decide +kernel
theorem d11_26 : decode method_6_code 26 = .ok (.ireturn, 1) := by decide +kernel
theorem d11_27 : decode method_6_code 27 = .ok (.iload 4, 2) := by decide +kernel
theorem d11_29 : decode method_6_code 29 = .ok (.iload_n 3, 1) := by decide +kernel
theorem d11_30 : decode method_6_code 30 = .ok (.iconst 1, 1) := by decide +kernel
theorem d11_31 : decode method_6_code 31 = .ok (.isub, 1) := by decide +kernel
theorem d11_32 : decode method_6_code 32 = .ok (.iload_n 1, 1) := by decide +kernel
theorem d11_33 : decode method_6_code 33 = .ok (.isub, 1) := by decide +kernel
theorem d11_34 : decode method_6_code 34 = .ok (.invokestatic 45, 3) := by decide +kernel
theorem pd__I_I : parseMethodDescriptor "(I)I" = some ⟨[.int], some .int⟩ := by decide +kernel
theorem d11_37 : decode method_6_code 37 = .ok (.imul, 1) := by decide +kernel
theorem d11_38 : decode method_6_code 38 = .ok (.ireturn, 1) := by decide +kernel
def f11 (p1 : Int32) (p2 : Int32) (p3 : Int32) (fc : Int32 → Int32) : Int32 := (if p1 < p2 then (0 : Int32) else (if p1 < p3 then (if (f12 (fc p1)) < (0 : Int32) then (-1 : Int32) else ((f12 (fc p1)) * (f19 ((p3 - (1 : Int32)) - p1)))) else (0 : Int32)))
set_option maxRecDepth 65536 in
set_option maxHeartbeats 40000000 in
theorem rm11 (l : Launch) (Z : State) (a0 : Array Value) (hw : ∀ d ∈ tables_1, d.before a0 Z = true) (r0 : Addr) (p1 : Int32) (p2 : Int32) (p3 : Int32) (fc : Int32 → Int32) (h0 : Heap) (n0 : Nat) (V0 : own_Arr Z h0 r0 .char (5 : Int32) fc) (hlo : ¬ p2 < 0) (hhi : ¬ (5 : Int32) < p3) :
    own_Met l Z n0 (⟨"com/example/vestledger/vestledger/DigitsParsePinLaw", "term", "([CIII)I"⟩ : MethodName) method_6_code 5 (some .int) ({ frames := 1, cells := 0, slots := 0, locals := 13 } : Room) #[(.ref r0), (.int p1), (.int p2), (.int p3)] h0 (fun v h => v = some (.int (f11 p1 p2 p3 fc)) ∧ h0 = h) := by
  refine own_met (plainFor_of_name pn_1) ?_
  intro p e s m below meth c T0 hx hby hml hown hnm hret hlk hZ A0
  rw [ef_11]
  show own_Go _ _ _ _ (T0.setTop (mkF m 0 #[.val (.ref r0), .val (.int p1), .val (.int p2), .val (.int p3), .unset] []))
  refine own_go (fun t_ k_ => XS.iloadN A0.here hx rfl (hb hby d11_0) rfl k_) ?_
  show own_Go _ _ _ _ (T0.setTop (mkF m 1 #[.val (.ref r0), .val (.int p1), .val (.int p2), .val (.int p3), .unset] [(.int p1)]))
  refine own_go (fun t_ k_ => XS.iloadN A0.here hx rfl (hb hby d11_1) rfl k_) ?_
  show own_Go _ _ _ _ (T0.setTop (mkF m 2 #[.val (.ref r0), .val (.int p1), .val (.int p2), .val (.int p3), .unset] [(.int p2), (.int p1)]))
  by_cases hc1 : p1 < p2
  ·
    refine own_go (fun t_ k_ => XS.icmpYes A0.here hx rfl (pc0 := 2) (pc' := 10) rfl (hb hby d11_2) rfl (tlt hc1).1 (by decide) (by decide) k_) ?_
    show own_Go _ _ _ _ (T0.setTop (mkF m 10 #[.val (.ref r0), .val (.int p1), .val (.int p2), .val (.int p3), .unset] []))
    refine own_go (fun t_ k_ => XS.iconst A0.here hx rfl (hb hby d11_10) k_) ?_
    show own_Go _ _ _ _ (T0.setTop (mkF m 11 #[.val (.ref r0), .val (.int p1), .val (.int p2), .val (.int p3), .unset] [(.int (0 : Int32))]))
    refine own_retI A0 hx hret hlk (by decide) (by decide) (hb hby d11_11) ?_
    exact ⟨congrArg (fun z => some (Value.int z)) (by simp only [f11, if_pos hc1]), rfl⟩
  ·
    refine own_go (fun t_ k_ => XS.icmpNo A0.here hx rfl (hb hby d11_2) rfl (flt hc1).1 k_) ?_
    show own_Go _ _ _ _ (T0.setTop (mkF m 5 #[.val (.ref r0), .val (.int p1), .val (.int p2), .val (.int p3), .unset] []))
    refine own_go (fun t_ k_ => XS.iloadN A0.here hx rfl (hb hby d11_5) rfl k_) ?_
    show own_Go _ _ _ _ (T0.setTop (mkF m 6 #[.val (.ref r0), .val (.int p1), .val (.int p2), .val (.int p3), .unset] [(.int p1)]))
    refine own_go (fun t_ k_ => XS.iloadN A0.here hx rfl (hb hby d11_6) rfl k_) ?_
    show own_Go _ _ _ _ (T0.setTop (mkF m 7 #[.val (.ref r0), .val (.int p1), .val (.int p2), .val (.int p3), .unset] [(.int p3), (.int p1)]))
    by_cases hc2 : p1 < p3
    ·
      refine own_go (fun t_ k_ => XS.icmpYes A0.here hx rfl (pc0 := 7) (pc' := 12) rfl (hb hby d11_7) rfl (tlt hc2).1 (by decide) (by decide) k_) ?_
      show own_Go _ _ _ _ (T0.setTop (mkF m 12 #[.val (.ref r0), .val (.int p1), .val (.int p2), .val (.int p3), .unset] []))
      refine own_go (fun t_ k_ => XS.aloadN A0.here hx rfl (hb hby d11_12) rfl rfl k_) ?_
      show own_Go _ _ _ _ (T0.setTop (mkF m 13 #[.val (.ref r0), .val (.int p1), .val (.int p2), .val (.int p3), .unset] [(.ref r0)]))
      refine own_go (fun t_ k_ => XS.iloadN A0.here hx rfl (hb hby d11_13) rfl k_) ?_
      show own_Go _ _ _ _ (T0.setTop (mkF m 14 #[.val (.ref r0), .val (.int p1), .val (.int p2), .val (.int p3), .unset] [(.int p1), (.ref r0)]))
      refine own_ldC A0 hx hZ V0 (own_in5 hlo hhi hc1 hc2) rfl rfl (hb hby d11_14) ?_
      show own_Go _ _ _ _ (T0.setTop (mkF m 15 #[.val (.ref r0), .val (.int p1), .val (.int p2), .val (.int p3), .unset] [(.int (fc p1))]))
      refine own_callS A0 hx hZ hown (y := (⟨"com/example/vestledger/vestledger/DigitsParsePinLaw", "digitValue", "(C)I"⟩ : MethodName)) (hw _ (List.mem_of_getElem? (i := 50) rfl)) (hw _ (List.mem_of_getElem? (i := 51) rfl)) (hw _ (List.mem_of_getElem? (i := 4) rfl)) (hw _ (List.mem_of_getElem? (i := 52) rfl)) (by decide) (argsL := [(.int (fc p1))]) (rest := []) (rm12 l Z a0 hw (fc p1) h0 n0 ) 0 (by decide) (by decide) rfl (by rw [hml]; rfl) (lenOf pd__C_I rfl) rfl (by show 2 * 0 + _ ≤ _; exact Nat.le_of_eq rfl) (hb hby d11_15) (by decide) (by decide) (fun v6 T3 h5 A4 hQ7 => ?_)
      obtain ⟨rfl, rfl⟩ := hQ7
      show own_Go _ _ _ _ (T3.setTop (mkF m 18 #[.val (.ref r0), .val (.int p1), .val (.int p2), .val (.int p3), .unset] [(.int (f12 (fc p1)))]))
      refine own_go (fun t_ k_ => XS.istore A4.here hx rfl (hb hby d11_18) rfl (l' := #[.val (.ref r0), .val (.int p1), .val (.int p2), .val (.int p3), .val (.int (f12 (fc p1)))]) rfl k_) ?_
      show own_Go _ _ _ _ (T3.setTop (mkF m 20 #[.val (.ref r0), .val (.int p1), .val (.int p2), .val (.int p3), .val (.int (f12 (fc p1)))] []))
      refine own_go (fun t_ k_ => XS.iload A4.here hx rfl (hb hby d11_20) rfl k_) ?_
      show own_Go _ _ _ _ (T3.setTop (mkF m 22 #[.val (.ref r0), .val (.int p1), .val (.int p2), .val (.int p3), .val (.int (f12 (fc p1)))] [(.int (f12 (fc p1)))]))
      by_cases hc8 : (f12 (fc p1)) < (0 : Int32)
      ·
        refine own_go (fun t_ k_ => XS.ifNo A4.here hx rfl (hb hby d11_22) rfl ((if0 _ _).trans (tlt hc8).2.1) k_) ?_
        show own_Go _ _ _ _ (T3.setTop (mkF m 25 #[.val (.ref r0), .val (.int p1), .val (.int p2), .val (.int p3), .val (.int (f12 (fc p1)))] []))
        refine own_go (fun t_ k_ => XS.iconst A4.here hx rfl (hb hby d11_25) k_) ?_
        show own_Go _ _ _ _ (T3.setTop (mkF m 26 #[.val (.ref r0), .val (.int p1), .val (.int p2), .val (.int p3), .val (.int (f12 (fc p1)))] [(.int (-1 : Int32))]))
        refine own_retI A4 hx hret hlk (by decide) (by decide) (hb hby d11_26) ?_
        exact ⟨congrArg (fun z => some (Value.int z)) (by simp only [f11, if_neg hc1, if_pos hc2, if_pos hc8]), rfl⟩
      ·
        refine own_go (fun t_ k_ => XS.ifYes A4.here hx rfl (pc0 := 22) (pc' := 27) rfl (hb hby d11_22) rfl ((if0 _ _).trans (flt hc8).2.1) (by decide) (by decide) k_) ?_
        show own_Go _ _ _ _ (T3.setTop (mkF m 27 #[.val (.ref r0), .val (.int p1), .val (.int p2), .val (.int p3), .val (.int (f12 (fc p1)))] []))
        refine own_go (fun t_ k_ => XS.iload A4.here hx rfl (hb hby d11_27) rfl k_) ?_
        show own_Go _ _ _ _ (T3.setTop (mkF m 29 #[.val (.ref r0), .val (.int p1), .val (.int p2), .val (.int p3), .val (.int (f12 (fc p1)))] [(.int (f12 (fc p1)))]))
        refine own_go (fun t_ k_ => XS.iloadN A4.here hx rfl (hb hby d11_29) rfl k_) ?_
        show own_Go _ _ _ _ (T3.setTop (mkF m 30 #[.val (.ref r0), .val (.int p1), .val (.int p2), .val (.int p3), .val (.int (f12 (fc p1)))] [(.int p3), (.int (f12 (fc p1)))]))
        refine own_go (fun t_ k_ => XS.iconst A4.here hx rfl (hb hby d11_30) k_) ?_
        show own_Go _ _ _ _ (T3.setTop (mkF m 31 #[.val (.ref r0), .val (.int p1), .val (.int p2), .val (.int p3), .val (.int (f12 (fc p1)))] [(.int (1 : Int32)), (.int p3), (.int (f12 (fc p1)))]))
        refine own_go (fun t_ k_ => XS.isub A4.here hx rfl (hb hby d11_31) rfl k_) ?_
        show own_Go _ _ _ _ (T3.setTop (mkF m 32 #[.val (.ref r0), .val (.int p1), .val (.int p2), .val (.int p3), .val (.int (f12 (fc p1)))] [(.int (p3 - (1 : Int32))), (.int (f12 (fc p1)))]))
        refine own_go (fun t_ k_ => XS.iloadN A4.here hx rfl (hb hby d11_32) rfl k_) ?_
        show own_Go _ _ _ _ (T3.setTop (mkF m 33 #[.val (.ref r0), .val (.int p1), .val (.int p2), .val (.int p3), .val (.int (f12 (fc p1)))] [(.int p1), (.int (p3 - (1 : Int32))), (.int (f12 (fc p1)))]))
        refine own_go (fun t_ k_ => XS.isub A4.here hx rfl (hb hby d11_33) rfl k_) ?_
        show own_Go _ _ _ _ (T3.setTop (mkF m 34 #[.val (.ref r0), .val (.int p1), .val (.int p2), .val (.int p3), .val (.int (f12 (fc p1)))] [(.int ((p3 - (1 : Int32)) - p1)), (.int (f12 (fc p1)))]))
        refine own_callS A4 hx hZ hown (y := (⟨"com/example/vestledger/vestledger/DigitsParsePinLaw", "pow10", "(I)I"⟩ : MethodName)) (hw _ (List.mem_of_getElem? (i := 79) rfl)) (hw _ (List.mem_of_getElem? (i := 80) rfl)) (hw _ (List.mem_of_getElem? (i := 4) rfl)) (hw _ (List.mem_of_getElem? (i := 81) rfl)) (by decide) (argsL := [(.int ((p3 - (1 : Int32)) - p1))]) (rest := [(.int (f12 (fc p1)))]) (rm19 l Z a0 hw ((p3 - (1 : Int32)) - p1) h0 n0 ) 1 (by decide) (by decide) rfl (by rw [hml]; rfl) (lenOf pd__I_I rfl) rfl (by show 2 * 0 + _ ≤ _; exact Nat.le_of_eq rfl) (hb hby d11_34) (by decide) (by decide) (fun v12 T9 h11 A10 hQ13 => ?_)
        obtain ⟨rfl, rfl⟩ := hQ13
        show own_Go _ _ _ _ (T9.setTop (mkF m 37 #[.val (.ref r0), .val (.int p1), .val (.int p2), .val (.int p3), .val (.int (f12 (fc p1)))] [(.int (f19 ((p3 - (1 : Int32)) - p1))), (.int (f12 (fc p1)))]))
        refine own_go (fun t_ k_ => XS.imul A10.here hx rfl (hb hby d11_37) rfl k_) ?_
        show own_Go _ _ _ _ (T9.setTop (mkF m 38 #[.val (.ref r0), .val (.int p1), .val (.int p2), .val (.int p3), .val (.int (f12 (fc p1)))] [(.int ((f12 (fc p1)) * (f19 ((p3 - (1 : Int32)) - p1))))]))
        refine own_retI A10 hx hret hlk (by decide) (by decide) (hb hby d11_38) ?_
        exact ⟨congrArg (fun z => some (Value.int z)) (by simp only [f11, if_neg hc1, if_pos hc2, if_neg hc8]), rfl⟩
    ·
      refine own_go (fun t_ k_ => XS.icmpNo A0.here hx rfl (hb hby d11_7) rfl (flt hc2).1 k_) ?_
      show own_Go _ _ _ _ (T0.setTop (mkF m 10 #[.val (.ref r0), .val (.int p1), .val (.int p2), .val (.int p3), .unset] []))
      refine own_go (fun t_ k_ => XS.iconst A0.here hx rfl (hb hby d11_10) k_) ?_
      show own_Go _ _ _ _ (T0.setTop (mkF m 11 #[.val (.ref r0), .val (.int p1), .val (.int p2), .val (.int p3), .unset] [(.int (0 : Int32))]))
      refine own_retI A0 hx hret hlk (by decide) (by decide) (hb hby d11_11) ?_
      exact ⟨congrArg (fun z => some (Value.int z)) (by simp only [f11, if_neg hc1, if_neg hc2]), rfl⟩
theorem ef_10 (m : MethodId) (r0 : Addr) (p1 : Int32) (p2 : Int32) : entryFrame m #[(.ref r0), (.int p1), (.int p2)] 8 = mkF m 0 #[.val (.ref r0), .val (.int p1), .val (.int p2), .unset, .unset, .unset, .unset, .unset] [] := by first | (simp [entryFrame, mkF, argsToLocals, Value.category]; done) | rfl
theorem d10_0 : decode method_7_code 0 = .ok (.aload_n 0, 1) := by decide +kernel
theorem d10_1 : decode method_7_code 1 = .ok (.iconst 0, 1) := by decide +kernel
theorem d10_2 : decode method_7_code 2 = .ok (.iload_n 1, 1) := by decide +kernel
theorem d10_3 : decode method_7_code 3 = .ok (.iload_n 2, 1) := by decide +kernel
theorem d10_4 : decode method_7_code 4 = .ok (.invokestatic 49, 3) := by decide +kernel
theorem pd___CIII_I : parseMethodDescriptor "([CIII)I" = some ⟨[(.array .char), .int, .int, .int], some .int⟩ := by decide +kernel
theorem d10_7 : decode method_7_code 7 = .ok (.istore_n 3, 1) := by decide +kernel
theorem d10_8 : decode method_7_code 8 = .ok (.aload_n 0, 1) := by decide +kernel
theorem d10_9 : decode method_7_code 9 = .ok (.iconst 1, 1) := by decide +kernel
theorem d10_10 : decode method_7_code 10 = .ok (.iload_n 1, 1) := by decide +kernel
theorem d10_11 : decode method_7_code 11 = .ok (.iload_n 2, 1) := by decide +kernel
theorem d10_12 : decode method_7_code 12 = .ok (.invokestatic 49, 3) := by decide +kernel
theorem d10_15 : decode method_7_code 15 = .ok (.istore 4, 2) := by decide +kernel
theorem d10_17 : decode method_7_code 17 = .ok (.aload_n 0, 1) := by decide +kernel
theorem d10_18 : decode method_7_code 18 = .ok (.iconst 2, 1) := by decide +kernel
theorem d10_19 : decode method_7_code 19 = .ok (.iload_n 1, 1) := by decide +kernel
theorem d10_20 : decode method_7_code 20 = .ok (.iload_n 2, 1) := by decide +kernel
theorem d10_21 : decode method_7_code 21 = .ok (.invokestatic 49, 3) := by decide +kernel
theorem d10_24 : decode method_7_code 24 = .ok (.istore 5, 2) := by decide +kernel
theorem d10_26 : decode method_7_code 26 = .ok (.aload_n 0, 1) := by decide +kernel
theorem d10_27 : decode method_7_code 27 = .ok (.iconst 3, 1) := by decide +kernel
theorem d10_28 : decode method_7_code 28 = .ok (.iload_n 1, 1) := by decide +kernel
theorem d10_29 : decode method_7_code 29 = .ok (.iload_n 2, 1) := by decide +kernel
theorem d10_30 : decode method_7_code 30 = .ok (.invokestatic 49, 3) := by decide +kernel
theorem d10_33 : decode method_7_code 33 = .ok (.istore 6, 2) := by decide +kernel
theorem d10_35 : decode method_7_code 35 = .ok (.aload_n 0, 1) := by decide +kernel
theorem d10_36 : decode method_7_code 36 = .ok (.iconst 4, 1) := by decide +kernel
theorem d10_37 : decode method_7_code 37 = .ok (.iload_n 1, 1) := by decide +kernel
theorem d10_38 : decode method_7_code 38 = .ok (.iload_n 2, 1) := by decide +kernel
theorem d10_39 : decode method_7_code 39 = .ok (.invokestatic 49, 3) := by decide +kernel
theorem d10_42 : decode method_7_code 42 = .ok (.istore 7, 2) := by decide +kernel
theorem d10_44 : decode method_7_code 44 = .ok (.iload_n 3, 1) := by decide +kernel
theorem d10_45 : decode method_7_code 45 = .ok (.ifCond .lt 23, 3) := by decide +kernel
theorem d10_68 : decode method_7_code 68 = .ok (.iconst (-1), 1) := by decide +kernel
theorem d10_69 : decode method_7_code 69 = .ok (.ireturn, 1) := by decide +kernel
theorem d10_48 : decode method_7_code 48 = .ok (.iload 4, 2) := by decide +kernel
theorem d10_50 : decode method_7_code 50 = .ok (.ifCond .lt 18, 3) := by decide +kernel
theorem d10_53 : decode method_7_code 53 = .ok (.iload 5, 2) := by decide +kernel
theorem d10_55 : decode method_7_code 55 = .ok (.ifCond .lt 13, 3) := by decide +kernel
theorem d10_58 : decode method_7_code 58 = .ok (.iload 6, 2) := by decide +kernel
theorem d10_60 : decode method_7_code 60 = .ok (.ifCond .lt 8, 3) := by decide +kernel
theorem d10_63 : decode method_7_code 63 = .ok (.iload 7, 2) := by decide +kernel
theorem d10_65 : decode method_7_code 65 = .ok (.ifCond .ge 5, 3) := by decide +kernel
theorem d10_70 : decode method_7_code 70 = .ok (.iload_n 3, 1) := by decide +kernel
theorem d10_71 : decode method_7_code 71 = .ok (.iload 4, 2) := by decide +kernel
theorem d10_73 : decode method_7_code 73 = .ok (.iadd, 1) := by decide +kernel
theorem d10_74 : decode method_7_code 74 = .ok (.iload 5, 2) := by decide +kernel
theorem d10_76 : decode method_7_code 76 = .ok (.iadd, 1) := by decide +kernel
theorem d10_77 : decode method_7_code 77 = .ok (.iload 6, 2) := by decide +kernel
theorem d10_79 : decode method_7_code 79 = .ok (.iadd, 1) := by decide +kernel
theorem d10_80 : decode method_7_code 80 = .ok (.iload 7, 2) := by decide +kernel
theorem d10_82 : decode method_7_code 82 = .ok (.iadd, 1) := by decide +kernel
theorem d10_83 : decode method_7_code 83 = .ok (.ireturn, 1) := by decide +kernel
def f10 (p1 : Int32) (p2 : Int32) (fc : Int32 → Int32) : Int32 := (if (f11 (0 : Int32) p1 p2 fc) < (0 : Int32) then (-1 : Int32) else (if (f11 (1 : Int32) p1 p2 fc) < (0 : Int32) then (-1 : Int32) else (if (f11 (2 : Int32) p1 p2 fc) < (0 : Int32) then (-1 : Int32) else (if (f11 (3 : Int32) p1 p2 fc) < (0 : Int32) then (-1 : Int32) else (if (f11 (4 : Int32) p1 p2 fc) < (0 : Int32) then (-1 : Int32) else (((((f11 (0 : Int32) p1 p2 fc) + (f11 (1 : Int32) p1 p2 fc)) + (f11 (2 : Int32) p1 p2 fc)) + (f11 (3 : Int32) p1 p2 fc)) + (f11 (4 : Int32) p1 p2 fc)))))))
set_option maxRecDepth 65536 in
set_option maxHeartbeats 40000000 in
theorem rm10 (l : Launch) (Z : State) (a0 : Array Value) (hw : ∀ d ∈ tables_1, d.before a0 Z = true) (r0 : Addr) (p1 : Int32) (p2 : Int32) (fc : Int32 → Int32) (h0 : Heap) (n0 : Nat) (V0 : own_Arr Z h0 r0 .char (5 : Int32) fc) (hlo : ¬ p1 < 0) (hhi : ¬ (5 : Int32) < p2) :
    own_Met l Z n0 (⟨"com/example/vestledger/vestledger/DigitsParsePinLaw", "reference", "([CII)I"⟩ : MethodName) method_7_code 8 (some .int) ({ frames := 2, cells := 0, slots := 0, locals := 29 } : Room) #[(.ref r0), (.int p1), (.int p2)] h0 (fun v h => v = some (.int (f10 p1 p2 fc)) ∧ h0 = h) := by
  refine own_met (plainFor_of_name pn_1) ?_
  intro p e s m below meth c T0 hx hby hml hown hnm hret hlk hZ A0
  rw [ef_10]
  show own_Go _ _ _ _ (T0.setTop (mkF m 0 #[.val (.ref r0), .val (.int p1), .val (.int p2), .unset, .unset, .unset, .unset, .unset] []))
  refine own_go (fun t_ k_ => XS.aloadN A0.here hx rfl (hb hby d10_0) rfl rfl k_) ?_
  show own_Go _ _ _ _ (T0.setTop (mkF m 1 #[.val (.ref r0), .val (.int p1), .val (.int p2), .unset, .unset, .unset, .unset, .unset] [(.ref r0)]))
  refine own_go (fun t_ k_ => XS.iconst A0.here hx rfl (hb hby d10_1) k_) ?_
  show own_Go _ _ _ _ (T0.setTop (mkF m 2 #[.val (.ref r0), .val (.int p1), .val (.int p2), .unset, .unset, .unset, .unset, .unset] [(.int (0 : Int32)), (.ref r0)]))
  refine own_go (fun t_ k_ => XS.iloadN A0.here hx rfl (hb hby d10_2) rfl k_) ?_
  show own_Go _ _ _ _ (T0.setTop (mkF m 3 #[.val (.ref r0), .val (.int p1), .val (.int p2), .unset, .unset, .unset, .unset, .unset] [(.int p1), (.int (0 : Int32)), (.ref r0)]))
  refine own_go (fun t_ k_ => XS.iloadN A0.here hx rfl (hb hby d10_3) rfl k_) ?_
  show own_Go _ _ _ _ (T0.setTop (mkF m 4 #[.val (.ref r0), .val (.int p1), .val (.int p2), .unset, .unset, .unset, .unset, .unset] [(.int p2), (.int p1), (.int (0 : Int32)), (.ref r0)]))
  refine own_callS A0 hx hZ hown (y := (⟨"com/example/vestledger/vestledger/DigitsParsePinLaw", "term", "([CIII)I"⟩ : MethodName)) (hw _ (List.mem_of_getElem? (i := 47) rfl)) (hw _ (List.mem_of_getElem? (i := 48) rfl)) (hw _ (List.mem_of_getElem? (i := 4) rfl)) (hw _ (List.mem_of_getElem? (i := 49) rfl)) (by decide) (argsL := [(.ref r0), (.int (0 : Int32)), (.int p1), (.int p2)]) (rest := []) (rm11 l Z a0 hw r0 (0 : Int32) p1 p2 fc h0 n0 V0 hlo hhi) 0 (by decide) (by decide) rfl (by rw [hml]; rfl) (lenOf pd___CIII_I rfl) rfl (by show 2 * 0 + _ ≤ _; exact Nat.le_of_eq rfl) (hb hby d10_4) (by decide) (by decide) (fun v4 T1 h3 A2 hQ5 => ?_)
  obtain ⟨rfl, rfl⟩ := hQ5
  show own_Go _ _ _ _ (T1.setTop (mkF m 7 #[.val (.ref r0), .val (.int p1), .val (.int p2), .unset, .unset, .unset, .unset, .unset] [(.int (f11 (0 : Int32) p1 p2 fc))]))
  refine own_go (fun t_ k_ => XS.istoreN A2.here hx rfl (hb hby d10_7) rfl (l' := #[.val (.ref r0), .val (.int p1), .val (.int p2), .val (.int (f11 (0 : Int32) p1 p2 fc)), .unset, .unset, .unset, .unset]) rfl k_) ?_
  show own_Go _ _ _ _ (T1.setTop (mkF m 8 #[.val (.ref r0), .val (.int p1), .val (.int p2), .val (.int (f11 (0 : Int32) p1 p2 fc)), .unset, .unset, .unset, .unset] []))
  refine own_go (fun t_ k_ => XS.aloadN A2.here hx rfl (hb hby d10_8) rfl rfl k_) ?_
  show own_Go _ _ _ _ (T1.setTop (mkF m 9 #[.val (.ref r0), .val (.int p1), .val (.int p2), .val (.int (f11 (0 : Int32) p1 p2 fc)), .unset, .unset, .unset, .unset] [(.ref r0)]))
  refine own_go (fun t_ k_ => XS.iconst A2.here hx rfl (hb hby d10_9) k_) ?_
  show own_Go _ _ _ _ (T1.setTop (mkF m 10 #[.val (.ref r0), .val (.int p1), .val (.int p2), .val (.int (f11 (0 : Int32) p1 p2 fc)), .unset, .unset, .unset, .unset] [(.int (1 : Int32)), (.ref r0)]))
  refine own_go (fun t_ k_ => XS.iloadN A2.here hx rfl (hb hby d10_10) rfl k_) ?_
  show own_Go _ _ _ _ (T1.setTop (mkF m 11 #[.val (.ref r0), .val (.int p1), .val (.int p2), .val (.int (f11 (0 : Int32) p1 p2 fc)), .unset, .unset, .unset, .unset] [(.int p1), (.int (1 : Int32)), (.ref r0)]))
  refine own_go (fun t_ k_ => XS.iloadN A2.here hx rfl (hb hby d10_11) rfl k_) ?_
  show own_Go _ _ _ _ (T1.setTop (mkF m 12 #[.val (.ref r0), .val (.int p1), .val (.int p2), .val (.int (f11 (0 : Int32) p1 p2 fc)), .unset, .unset, .unset, .unset] [(.int p2), (.int p1), (.int (1 : Int32)), (.ref r0)]))
  refine own_callS A2 hx hZ hown (y := (⟨"com/example/vestledger/vestledger/DigitsParsePinLaw", "term", "([CIII)I"⟩ : MethodName)) (hw _ (List.mem_of_getElem? (i := 47) rfl)) (hw _ (List.mem_of_getElem? (i := 48) rfl)) (hw _ (List.mem_of_getElem? (i := 4) rfl)) (hw _ (List.mem_of_getElem? (i := 49) rfl)) (by decide) (argsL := [(.ref r0), (.int (1 : Int32)), (.int p1), (.int p2)]) (rest := []) (rm11 l Z a0 hw r0 (1 : Int32) p1 p2 fc h0 n0 V0 hlo hhi) 0 (by decide) (by decide) rfl (by rw [hml]; rfl) (lenOf pd___CIII_I rfl) rfl (by show 2 * 0 + _ ≤ _; exact Nat.le_of_eq rfl) (hb hby d10_12) (by decide) (by decide) (fun v9 T6 h8 A7 hQ10 => ?_)
  obtain ⟨rfl, rfl⟩ := hQ10
  show own_Go _ _ _ _ (T6.setTop (mkF m 15 #[.val (.ref r0), .val (.int p1), .val (.int p2), .val (.int (f11 (0 : Int32) p1 p2 fc)), .unset, .unset, .unset, .unset] [(.int (f11 (1 : Int32) p1 p2 fc))]))
  refine own_go (fun t_ k_ => XS.istore A7.here hx rfl (hb hby d10_15) rfl (l' := #[.val (.ref r0), .val (.int p1), .val (.int p2), .val (.int (f11 (0 : Int32) p1 p2 fc)), .val (.int (f11 (1 : Int32) p1 p2 fc)), .unset, .unset, .unset]) rfl k_) ?_
  show own_Go _ _ _ _ (T6.setTop (mkF m 17 #[.val (.ref r0), .val (.int p1), .val (.int p2), .val (.int (f11 (0 : Int32) p1 p2 fc)), .val (.int (f11 (1 : Int32) p1 p2 fc)), .unset, .unset, .unset] []))
  refine own_go (fun t_ k_ => XS.aloadN A7.here hx rfl (hb hby d10_17) rfl rfl k_) ?_
  show own_Go _ _ _ _ (T6.setTop (mkF m 18 #[.val (.ref r0), .val (.int p1), .val (.int p2), .val (.int (f11 (0 : Int32) p1 p2 fc)), .val (.int (f11 (1 : Int32) p1 p2 fc)), .unset, .unset, .unset] [(.ref r0)]))
  refine own_go (fun t_ k_ => XS.iconst A7.here hx rfl (hb hby d10_18) k_) ?_
  show own_Go _ _ _ _ (T6.setTop (mkF m 19 #[.val (.ref r0), .val (.int p1), .val (.int p2), .val (.int (f11 (0 : Int32) p1 p2 fc)), .val (.int (f11 (1 : Int32) p1 p2 fc)), .unset, .unset, .unset] [(.int (2 : Int32)), (.ref r0)]))
  refine own_go (fun t_ k_ => XS.iloadN A7.here hx rfl (hb hby d10_19) rfl k_) ?_
  show own_Go _ _ _ _ (T6.setTop (mkF m 20 #[.val (.ref r0), .val (.int p1), .val (.int p2), .val (.int (f11 (0 : Int32) p1 p2 fc)), .val (.int (f11 (1 : Int32) p1 p2 fc)), .unset, .unset, .unset] [(.int p1), (.int (2 : Int32)), (.ref r0)]))
  refine own_go (fun t_ k_ => XS.iloadN A7.here hx rfl (hb hby d10_20) rfl k_) ?_
  show own_Go _ _ _ _ (T6.setTop (mkF m 21 #[.val (.ref r0), .val (.int p1), .val (.int p2), .val (.int (f11 (0 : Int32) p1 p2 fc)), .val (.int (f11 (1 : Int32) p1 p2 fc)), .unset, .unset, .unset] [(.int p2), (.int p1), (.int (2 : Int32)), (.ref r0)]))
  refine own_callS A7 hx hZ hown (y := (⟨"com/example/vestledger/vestledger/DigitsParsePinLaw", "term", "([CIII)I"⟩ : MethodName)) (hw _ (List.mem_of_getElem? (i := 47) rfl)) (hw _ (List.mem_of_getElem? (i := 48) rfl)) (hw _ (List.mem_of_getElem? (i := 4) rfl)) (hw _ (List.mem_of_getElem? (i := 49) rfl)) (by decide) (argsL := [(.ref r0), (.int (2 : Int32)), (.int p1), (.int p2)]) (rest := []) (rm11 l Z a0 hw r0 (2 : Int32) p1 p2 fc h0 n0 V0 hlo hhi) 0 (by decide) (by decide) rfl (by rw [hml]; rfl) (lenOf pd___CIII_I rfl) rfl (by show 2 * 0 + _ ≤ _; exact Nat.le_of_eq rfl) (hb hby d10_21) (by decide) (by decide) (fun v14 T11 h13 A12 hQ15 => ?_)
  obtain ⟨rfl, rfl⟩ := hQ15
  show own_Go _ _ _ _ (T11.setTop (mkF m 24 #[.val (.ref r0), .val (.int p1), .val (.int p2), .val (.int (f11 (0 : Int32) p1 p2 fc)), .val (.int (f11 (1 : Int32) p1 p2 fc)), .unset, .unset, .unset] [(.int (f11 (2 : Int32) p1 p2 fc))]))
  refine own_go (fun t_ k_ => XS.istore A12.here hx rfl (hb hby d10_24) rfl (l' := #[.val (.ref r0), .val (.int p1), .val (.int p2), .val (.int (f11 (0 : Int32) p1 p2 fc)), .val (.int (f11 (1 : Int32) p1 p2 fc)), .val (.int (f11 (2 : Int32) p1 p2 fc)), .unset, .unset]) rfl k_) ?_
  show own_Go _ _ _ _ (T11.setTop (mkF m 26 #[.val (.ref r0), .val (.int p1), .val (.int p2), .val (.int (f11 (0 : Int32) p1 p2 fc)), .val (.int (f11 (1 : Int32) p1 p2 fc)), .val (.int (f11 (2 : Int32) p1 p2 fc)), .unset, .unset] []))
  refine own_go (fun t_ k_ => XS.aloadN A12.here hx rfl (hb hby d10_26) rfl rfl k_) ?_
  show own_Go _ _ _ _ (T11.setTop (mkF m 27 #[.val (.ref r0), .val (.int p1), .val (.int p2), .val (.int (f11 (0 : Int32) p1 p2 fc)), .val (.int (f11 (1 : Int32) p1 p2 fc)), .val (.int (f11 (2 : Int32) p1 p2 fc)), .unset, .unset] [(.ref r0)]))
  refine own_go (fun t_ k_ => XS.iconst A12.here hx rfl (hb hby d10_27) k_) ?_
  show own_Go _ _ _ _ (T11.setTop (mkF m 28 #[.val (.ref r0), .val (.int p1), .val (.int p2), .val (.int (f11 (0 : Int32) p1 p2 fc)), .val (.int (f11 (1 : Int32) p1 p2 fc)), .val (.int (f11 (2 : Int32) p1 p2 fc)), .unset, .unset] [(.int (3 : Int32)), (.ref r0)]))
  refine own_go (fun t_ k_ => XS.iloadN A12.here hx rfl (hb hby d10_28) rfl k_) ?_
  show own_Go _ _ _ _ (T11.setTop (mkF m 29 #[.val (.ref r0), .val (.int p1), .val (.int p2), .val (.int (f11 (0 : Int32) p1 p2 fc)), .val (.int (f11 (1 : Int32) p1 p2 fc)), .val (.int (f11 (2 : Int32) p1 p2 fc)), .unset, .unset] [(.int p1), (.int (3 : Int32)), (.ref r0)]))
  refine own_go (fun t_ k_ => XS.iloadN A12.here hx rfl (hb hby d10_29) rfl k_) ?_
  show own_Go _ _ _ _ (T11.setTop (mkF m 30 #[.val (.ref r0), .val (.int p1), .val (.int p2), .val (.int (f11 (0 : Int32) p1 p2 fc)), .val (.int (f11 (1 : Int32) p1 p2 fc)), .val (.int (f11 (2 : Int32) p1 p2 fc)), .unset, .unset] [(.int p2), (.int p1), (.int (3 : Int32)), (.ref r0)]))
  refine own_callS A12 hx hZ hown (y := (⟨"com/example/vestledger/vestledger/DigitsParsePinLaw", "term", "([CIII)I"⟩ : MethodName)) (hw _ (List.mem_of_getElem? (i := 47) rfl)) (hw _ (List.mem_of_getElem? (i := 48) rfl)) (hw _ (List.mem_of_getElem? (i := 4) rfl)) (hw _ (List.mem_of_getElem? (i := 49) rfl)) (by decide) (argsL := [(.ref r0), (.int (3 : Int32)), (.int p1), (.int p2)]) (rest := []) (rm11 l Z a0 hw r0 (3 : Int32) p1 p2 fc h0 n0 V0 hlo hhi) 0 (by decide) (by decide) rfl (by rw [hml]; rfl) (lenOf pd___CIII_I rfl) rfl (by show 2 * 0 + _ ≤ _; exact Nat.le_of_eq rfl) (hb hby d10_30) (by decide) (by decide) (fun v19 T16 h18 A17 hQ20 => ?_)
  obtain ⟨rfl, rfl⟩ := hQ20
  show own_Go _ _ _ _ (T16.setTop (mkF m 33 #[.val (.ref r0), .val (.int p1), .val (.int p2), .val (.int (f11 (0 : Int32) p1 p2 fc)), .val (.int (f11 (1 : Int32) p1 p2 fc)), .val (.int (f11 (2 : Int32) p1 p2 fc)), .unset, .unset] [(.int (f11 (3 : Int32) p1 p2 fc))]))
  refine own_go (fun t_ k_ => XS.istore A17.here hx rfl (hb hby d10_33) rfl (l' := #[.val (.ref r0), .val (.int p1), .val (.int p2), .val (.int (f11 (0 : Int32) p1 p2 fc)), .val (.int (f11 (1 : Int32) p1 p2 fc)), .val (.int (f11 (2 : Int32) p1 p2 fc)), .val (.int (f11 (3 : Int32) p1 p2 fc)), .unset]) rfl k_) ?_
  show own_Go _ _ _ _ (T16.setTop (mkF m 35 #[.val (.ref r0), .val (.int p1), .val (.int p2), .val (.int (f11 (0 : Int32) p1 p2 fc)), .val (.int (f11 (1 : Int32) p1 p2 fc)), .val (.int (f11 (2 : Int32) p1 p2 fc)), .val (.int (f11 (3 : Int32) p1 p2 fc)), .unset] []))
  refine own_go (fun t_ k_ => XS.aloadN A17.here hx rfl (hb hby d10_35) rfl rfl k_) ?_
  show own_Go _ _ _ _ (T16.setTop (mkF m 36 #[.val (.ref r0), .val (.int p1), .val (.int p2), .val (.int (f11 (0 : Int32) p1 p2 fc)), .val (.int (f11 (1 : Int32) p1 p2 fc)), .val (.int (f11 (2 : Int32) p1 p2 fc)), .val (.int (f11 (3 : Int32) p1 p2 fc)), .unset] [(.ref r0)]))
  refine own_go (fun t_ k_ => XS.iconst A17.here hx rfl (hb hby d10_36) k_) ?_
  show own_Go _ _ _ _ (T16.setTop (mkF m 37 #[.val (.ref r0), .val (.int p1), .val (.int p2), .val (.int (f11 (0 : Int32) p1 p2 fc)), .val (.int (f11 (1 : Int32) p1 p2 fc)), .val (.int (f11 (2 : Int32) p1 p2 fc)), .val (.int (f11 (3 : Int32) p1 p2 fc)), .unset] [(.int (4 : Int32)), (.ref r0)]))
  refine own_go (fun t_ k_ => XS.iloadN A17.here hx rfl (hb hby d10_37) rfl k_) ?_
  show own_Go _ _ _ _ (T16.setTop (mkF m 38 #[.val (.ref r0), .val (.int p1), .val (.int p2), .val (.int (f11 (0 : Int32) p1 p2 fc)), .val (.int (f11 (1 : Int32) p1 p2 fc)), .val (.int (f11 (2 : Int32) p1 p2 fc)), .val (.int (f11 (3 : Int32) p1 p2 fc)), .unset] [(.int p1), (.int (4 : Int32)), (.ref r0)]))
  refine own_go (fun t_ k_ => XS.iloadN A17.here hx rfl (hb hby d10_38) rfl k_) ?_
  show own_Go _ _ _ _ (T16.setTop (mkF m 39 #[.val (.ref r0), .val (.int p1), .val (.int p2), .val (.int (f11 (0 : Int32) p1 p2 fc)), .val (.int (f11 (1 : Int32) p1 p2 fc)), .val (.int (f11 (2 : Int32) p1 p2 fc)), .val (.int (f11 (3 : Int32) p1 p2 fc)), .unset] [(.int p2), (.int p1), (.int (4 : Int32)), (.ref r0)]))
  refine own_callS A17 hx hZ hown (y := (⟨"com/example/vestledger/vestledger/DigitsParsePinLaw", "term", "([CIII)I"⟩ : MethodName)) (hw _ (List.mem_of_getElem? (i := 47) rfl)) (hw _ (List.mem_of_getElem? (i := 48) rfl)) (hw _ (List.mem_of_getElem? (i := 4) rfl)) (hw _ (List.mem_of_getElem? (i := 49) rfl)) (by decide) (argsL := [(.ref r0), (.int (4 : Int32)), (.int p1), (.int p2)]) (rest := []) (rm11 l Z a0 hw r0 (4 : Int32) p1 p2 fc h0 n0 V0 hlo hhi) 0 (by decide) (by decide) rfl (by rw [hml]; rfl) (lenOf pd___CIII_I rfl) rfl (by show 2 * 0 + _ ≤ _; exact Nat.le_of_eq rfl) (hb hby d10_39) (by decide) (by decide) (fun v24 T21 h23 A22 hQ25 => ?_)
  obtain ⟨rfl, rfl⟩ := hQ25
  show own_Go _ _ _ _ (T21.setTop (mkF m 42 #[.val (.ref r0), .val (.int p1), .val (.int p2), .val (.int (f11 (0 : Int32) p1 p2 fc)), .val (.int (f11 (1 : Int32) p1 p2 fc)), .val (.int (f11 (2 : Int32) p1 p2 fc)), .val (.int (f11 (3 : Int32) p1 p2 fc)), .unset] [(.int (f11 (4 : Int32) p1 p2 fc))]))
  refine own_go (fun t_ k_ => XS.istore A22.here hx rfl (hb hby d10_42) rfl (l' := #[.val (.ref r0), .val (.int p1), .val (.int p2), .val (.int (f11 (0 : Int32) p1 p2 fc)), .val (.int (f11 (1 : Int32) p1 p2 fc)), .val (.int (f11 (2 : Int32) p1 p2 fc)), .val (.int (f11 (3 : Int32) p1 p2 fc)), .val (.int (f11 (4 : Int32) p1 p2 fc))]) rfl k_) ?_
  show own_Go _ _ _ _ (T21.setTop (mkF m 44 #[.val (.ref r0), .val (.int p1), .val (.int p2), .val (.int (f11 (0 : Int32) p1 p2 fc)), .val (.int (f11 (1 : Int32) p1 p2 fc)), .val (.int (f11 (2 : Int32) p1 p2 fc)), .val (.int (f11 (3 : Int32) p1 p2 fc)), .val (.int (f11 (4 : Int32) p1 p2 fc))] []))
  refine own_go (fun t_ k_ => XS.iloadN A22.here hx rfl (hb hby d10_44) rfl k_) ?_
  show own_Go _ _ _ _ (T21.setTop (mkF m 45 #[.val (.ref r0), .val (.int p1), .val (.int p2), .val (.int (f11 (0 : Int32) p1 p2 fc)), .val (.int (f11 (1 : Int32) p1 p2 fc)), .val (.int (f11 (2 : Int32) p1 p2 fc)), .val (.int (f11 (3 : Int32) p1 p2 fc)), .val (.int (f11 (4 : Int32) p1 p2 fc))] [(.int (f11 (0 : Int32) p1 p2 fc))]))
  by_cases hc26 : (f11 (0 : Int32) p1 p2 fc) < (0 : Int32)
  ·
    refine own_go (fun t_ k_ => XS.ifYes A22.here hx rfl (pc0 := 45) (pc' := 68) rfl (hb hby d10_45) rfl ((if0 _ _).trans (tlt hc26).1) (by decide) (by decide) k_) ?_
    show own_Go _ _ _ _ (T21.setTop (mkF m 68 #[.val (.ref r0), .val (.int p1), .val (.int p2), .val (.int (f11 (0 : Int32) p1 p2 fc)), .val (.int (f11 (1 : Int32) p1 p2 fc)), .val (.int (f11 (2 : Int32) p1 p2 fc)), .val (.int (f11 (3 : Int32) p1 p2 fc)), .val (.int (f11 (4 : Int32) p1 p2 fc))] []))
    refine own_go (fun t_ k_ => XS.iconst A22.here hx rfl (hb hby d10_68) k_) ?_
    show own_Go _ _ _ _ (T21.setTop (mkF m 69 #[.val (.ref r0), .val (.int p1), .val (.int p2), .val (.int (f11 (0 : Int32) p1 p2 fc)), .val (.int (f11 (1 : Int32) p1 p2 fc)), .val (.int (f11 (2 : Int32) p1 p2 fc)), .val (.int (f11 (3 : Int32) p1 p2 fc)), .val (.int (f11 (4 : Int32) p1 p2 fc))] [(.int (-1 : Int32))]))
    refine own_retI A22 hx hret hlk (by decide) (by decide) (hb hby d10_69) ?_
    exact ⟨congrArg (fun z => some (Value.int z)) (by simp only [f10, if_pos hc26]), rfl⟩
  ·
    refine own_go (fun t_ k_ => XS.ifNo A22.here hx rfl (hb hby d10_45) rfl ((if0 _ _).trans (flt hc26).1) k_) ?_
    show own_Go _ _ _ _ (T21.setTop (mkF m 48 #[.val (.ref r0), .val (.int p1), .val (.int p2), .val (.int (f11 (0 : Int32) p1 p2 fc)), .val (.int (f11 (1 : Int32) p1 p2 fc)), .val (.int (f11 (2 : Int32) p1 p2 fc)), .val (.int (f11 (3 : Int32) p1 p2 fc)), .val (.int (f11 (4 : Int32) p1 p2 fc))] []))
    refine own_go (fun t_ k_ => XS.iload A22.here hx rfl (hb hby d10_48) rfl k_) ?_
    show own_Go _ _ _ _ (T21.setTop (mkF m 50 #[.val (.ref r0), .val (.int p1), .val (.int p2), .val (.int (f11 (0 : Int32) p1 p2 fc)), .val (.int (f11 (1 : Int32) p1 p2 fc)), .val (.int (f11 (2 : Int32) p1 p2 fc)), .val (.int (f11 (3 : Int32) p1 p2 fc)), .val (.int (f11 (4 : Int32) p1 p2 fc))] [(.int (f11 (1 : Int32) p1 p2 fc))]))
    by_cases hc27 : (f11 (1 : Int32) p1 p2 fc) < (0 : Int32)
    ·
      refine own_go (fun t_ k_ => XS.ifYes A22.here hx rfl (pc0 := 50) (pc' := 68) rfl (hb hby d10_50) rfl ((if0 _ _).trans (tlt hc27).1) (by decide) (by decide) k_) ?_
      show own_Go _ _ _ _ (T21.setTop (mkF m 68 #[.val (.ref r0), .val (.int p1), .val (.int p2), .val (.int (f11 (0 : Int32) p1 p2 fc)), .val (.int (f11 (1 : Int32) p1 p2 fc)), .val (.int (f11 (2 : Int32) p1 p2 fc)), .val (.int (f11 (3 : Int32) p1 p2 fc)), .val (.int (f11 (4 : Int32) p1 p2 fc))] []))
      refine own_go (fun t_ k_ => XS.iconst A22.here hx rfl (hb hby d10_68) k_) ?_
      show own_Go _ _ _ _ (T21.setTop (mkF m 69 #[.val (.ref r0), .val (.int p1), .val (.int p2), .val (.int (f11 (0 : Int32) p1 p2 fc)), .val (.int (f11 (1 : Int32) p1 p2 fc)), .val (.int (f11 (2 : Int32) p1 p2 fc)), .val (.int (f11 (3 : Int32) p1 p2 fc)), .val (.int (f11 (4 : Int32) p1 p2 fc))] [(.int (-1 : Int32))]))
      refine own_retI A22 hx hret hlk (by decide) (by decide) (hb hby d10_69) ?_
      exact ⟨congrArg (fun z => some (Value.int z)) (by simp only [f10, if_neg hc26, if_pos hc27]), rfl⟩
    ·
      refine own_go (fun t_ k_ => XS.ifNo A22.here hx rfl (hb hby d10_50) rfl ((if0 _ _).trans (flt hc27).1) k_) ?_
      show own_Go _ _ _ _ (T21.setTop (mkF m 53 #[.val (.ref r0), .val (.int p1), .val (.int p2), .val (.int (f11 (0 : Int32) p1 p2 fc)), .val (.int (f11 (1 : Int32) p1 p2 fc)), .val (.int (f11 (2 : Int32) p1 p2 fc)), .val (.int (f11 (3 : Int32) p1 p2 fc)), .val (.int (f11 (4 : Int32) p1 p2 fc))] []))
      refine own_go (fun t_ k_ => XS.iload A22.here hx rfl (hb hby d10_53) rfl k_) ?_
      show own_Go _ _ _ _ (T21.setTop (mkF m 55 #[.val (.ref r0), .val (.int p1), .val (.int p2), .val (.int (f11 (0 : Int32) p1 p2 fc)), .val (.int (f11 (1 : Int32) p1 p2 fc)), .val (.int (f11 (2 : Int32) p1 p2 fc)), .val (.int (f11 (3 : Int32) p1 p2 fc)), .val (.int (f11 (4 : Int32) p1 p2 fc))] [(.int (f11 (2 : Int32) p1 p2 fc))]))
      by_cases hc28 : (f11 (2 : Int32) p1 p2 fc) < (0 : Int32)
      ·
        refine own_go (fun t_ k_ => XS.ifYes A22.here hx rfl (pc0 := 55) (pc' := 68) rfl (hb hby d10_55) rfl ((if0 _ _).trans (tlt hc28).1) (by decide) (by decide) k_) ?_
        show own_Go _ _ _ _ (T21.setTop (mkF m 68 #[.val (.ref r0), .val (.int p1), .val (.int p2), .val (.int (f11 (0 : Int32) p1 p2 fc)), .val (.int (f11 (1 : Int32) p1 p2 fc)), .val (.int (f11 (2 : Int32) p1 p2 fc)), .val (.int (f11 (3 : Int32) p1 p2 fc)), .val (.int (f11 (4 : Int32) p1 p2 fc))] []))
        refine own_go (fun t_ k_ => XS.iconst A22.here hx rfl (hb hby d10_68) k_) ?_
        show own_Go _ _ _ _ (T21.setTop (mkF m 69 #[.val (.ref r0), .val (.int p1), .val (.int p2), .val (.int (f11 (0 : Int32) p1 p2 fc)), .val (.int (f11 (1 : Int32) p1 p2 fc)), .val (.int (f11 (2 : Int32) p1 p2 fc)), .val (.int (f11 (3 : Int32) p1 p2 fc)), .val (.int (f11 (4 : Int32) p1 p2 fc))] [(.int (-1 : Int32))]))
        refine own_retI A22 hx hret hlk (by decide) (by decide) (hb hby d10_69) ?_
        exact ⟨congrArg (fun z => some (Value.int z)) (by simp only [f10, if_neg hc26, if_neg hc27, if_pos hc28]), rfl⟩
      ·
        refine own_go (fun t_ k_ => XS.ifNo A22.here hx rfl (hb hby d10_55) rfl ((if0 _ _).trans (flt hc28).1) k_) ?_
        show own_Go _ _ _ _ (T21.setTop (mkF m 58 #[.val (.ref r0), .val (.int p1), .val (.int p2), .val (.int (f11 (0 : Int32) p1 p2 fc)), .val (.int (f11 (1 : Int32) p1 p2 fc)), .val (.int (f11 (2 : Int32) p1 p2 fc)), .val (.int (f11 (3 : Int32) p1 p2 fc)), .val (.int (f11 (4 : Int32) p1 p2 fc))] []))
        refine own_go (fun t_ k_ => XS.iload A22.here hx rfl (hb hby d10_58) rfl k_) ?_
        show own_Go _ _ _ _ (T21.setTop (mkF m 60 #[.val (.ref r0), .val (.int p1), .val (.int p2), .val (.int (f11 (0 : Int32) p1 p2 fc)), .val (.int (f11 (1 : Int32) p1 p2 fc)), .val (.int (f11 (2 : Int32) p1 p2 fc)), .val (.int (f11 (3 : Int32) p1 p2 fc)), .val (.int (f11 (4 : Int32) p1 p2 fc))] [(.int (f11 (3 : Int32) p1 p2 fc))]))
        by_cases hc29 : (f11 (3 : Int32) p1 p2 fc) < (0 : Int32)
        ·
          refine own_go (fun t_ k_ => XS.ifYes A22.here hx rfl (pc0 := 60) (pc' := 68) rfl (hb hby d10_60) rfl ((if0 _ _).trans (tlt hc29).1) (by decide) (by decide) k_) ?_
          show own_Go _ _ _ _ (T21.setTop (mkF m 68 #[.val (.ref r0), .val (.int p1), .val (.int p2), .val (.int (f11 (0 : Int32) p1 p2 fc)), .val (.int (f11 (1 : Int32) p1 p2 fc)), .val (.int (f11 (2 : Int32) p1 p2 fc)), .val (.int (f11 (3 : Int32) p1 p2 fc)), .val (.int (f11 (4 : Int32) p1 p2 fc))] []))
          refine own_go (fun t_ k_ => XS.iconst A22.here hx rfl (hb hby d10_68) k_) ?_
          show own_Go _ _ _ _ (T21.setTop (mkF m 69 #[.val (.ref r0), .val (.int p1), .val (.int p2), .val (.int (f11 (0 : Int32) p1 p2 fc)), .val (.int (f11 (1 : Int32) p1 p2 fc)), .val (.int (f11 (2 : Int32) p1 p2 fc)), .val (.int (f11 (3 : Int32) p1 p2 fc)), .val (.int (f11 (4 : Int32) p1 p2 fc))] [(.int (-1 : Int32))]))
          refine own_retI A22 hx hret hlk (by decide) (by decide) (hb hby d10_69) ?_
          exact ⟨congrArg (fun z => some (Value.int z)) (by simp only [f10, if_neg hc26, if_neg hc27, if_neg hc28, if_pos hc29]), rfl⟩
        ·
          refine own_go (fun t_ k_ => XS.ifNo A22.here hx rfl (hb hby d10_60) rfl ((if0 _ _).trans (flt hc29).1) k_) ?_
          show own_Go _ _ _ _ (T21.setTop (mkF m 63 #[.val (.ref r0), .val (.int p1), .val (.int p2), .val (.int (f11 (0 : Int32) p1 p2 fc)), .val (.int (f11 (1 : Int32) p1 p2 fc)), .val (.int (f11 (2 : Int32) p1 p2 fc)), .val (.int (f11 (3 : Int32) p1 p2 fc)), .val (.int (f11 (4 : Int32) p1 p2 fc))] []))
          refine own_go (fun t_ k_ => XS.iload A22.here hx rfl (hb hby d10_63) rfl k_) ?_
          show own_Go _ _ _ _ (T21.setTop (mkF m 65 #[.val (.ref r0), .val (.int p1), .val (.int p2), .val (.int (f11 (0 : Int32) p1 p2 fc)), .val (.int (f11 (1 : Int32) p1 p2 fc)), .val (.int (f11 (2 : Int32) p1 p2 fc)), .val (.int (f11 (3 : Int32) p1 p2 fc)), .val (.int (f11 (4 : Int32) p1 p2 fc))] [(.int (f11 (4 : Int32) p1 p2 fc))]))
          by_cases hc30 : (f11 (4 : Int32) p1 p2 fc) < (0 : Int32)
          ·
            refine own_go (fun t_ k_ => XS.ifNo A22.here hx rfl (hb hby d10_65) rfl ((if0 _ _).trans (tlt hc30).2.1) k_) ?_
            show own_Go _ _ _ _ (T21.setTop (mkF m 68 #[.val (.ref r0), .val (.int p1), .val (.int p2), .val (.int (f11 (0 : Int32) p1 p2 fc)), .val (.int (f11 (1 : Int32) p1 p2 fc)), .val (.int (f11 (2 : Int32) p1 p2 fc)), .val (.int (f11 (3 : Int32) p1 p2 fc)), .val (.int (f11 (4 : Int32) p1 p2 fc))] []))
            refine own_go (fun t_ k_ => XS.iconst A22.here hx rfl (hb hby d10_68) k_) ?_
            show own_Go _ _ _ _ (T21.setTop (mkF m 69 #[.val (.ref r0), .val (.int p1), .val (.int p2), .val (.int (f11 (0 : Int32) p1 p2 fc)), .val (.int (f11 (1 : Int32) p1 p2 fc)), .val (.int (f11 (2 : Int32) p1 p2 fc)), .val (.int (f11 (3 : Int32) p1 p2 fc)), .val (.int (f11 (4 : Int32) p1 p2 fc))] [(.int (-1 : Int32))]))
            refine own_retI A22 hx hret hlk (by decide) (by decide) (hb hby d10_69) ?_
            exact ⟨congrArg (fun z => some (Value.int z)) (by simp only [f10, if_neg hc26, if_neg hc27, if_neg hc28, if_neg hc29, if_pos hc30]), rfl⟩
          ·
            refine own_go (fun t_ k_ => XS.ifYes A22.here hx rfl (pc0 := 65) (pc' := 70) rfl (hb hby d10_65) rfl ((if0 _ _).trans (flt hc30).2.1) (by decide) (by decide) k_) ?_
            show own_Go _ _ _ _ (T21.setTop (mkF m 70 #[.val (.ref r0), .val (.int p1), .val (.int p2), .val (.int (f11 (0 : Int32) p1 p2 fc)), .val (.int (f11 (1 : Int32) p1 p2 fc)), .val (.int (f11 (2 : Int32) p1 p2 fc)), .val (.int (f11 (3 : Int32) p1 p2 fc)), .val (.int (f11 (4 : Int32) p1 p2 fc))] []))
            refine own_go (fun t_ k_ => XS.iloadN A22.here hx rfl (hb hby d10_70) rfl k_) ?_
            show own_Go _ _ _ _ (T21.setTop (mkF m 71 #[.val (.ref r0), .val (.int p1), .val (.int p2), .val (.int (f11 (0 : Int32) p1 p2 fc)), .val (.int (f11 (1 : Int32) p1 p2 fc)), .val (.int (f11 (2 : Int32) p1 p2 fc)), .val (.int (f11 (3 : Int32) p1 p2 fc)), .val (.int (f11 (4 : Int32) p1 p2 fc))] [(.int (f11 (0 : Int32) p1 p2 fc))]))
            refine own_go (fun t_ k_ => XS.iload A22.here hx rfl (hb hby d10_71) rfl k_) ?_
            show own_Go _ _ _ _ (T21.setTop (mkF m 73 #[.val (.ref r0), .val (.int p1), .val (.int p2), .val (.int (f11 (0 : Int32) p1 p2 fc)), .val (.int (f11 (1 : Int32) p1 p2 fc)), .val (.int (f11 (2 : Int32) p1 p2 fc)), .val (.int (f11 (3 : Int32) p1 p2 fc)), .val (.int (f11 (4 : Int32) p1 p2 fc))] [(.int (f11 (1 : Int32) p1 p2 fc)), (.int (f11 (0 : Int32) p1 p2 fc))]))
            refine own_go (fun t_ k_ => XS.iadd A22.here hx rfl (hb hby d10_73) rfl k_) ?_
            show own_Go _ _ _ _ (T21.setTop (mkF m 74 #[.val (.ref r0), .val (.int p1), .val (.int p2), .val (.int (f11 (0 : Int32) p1 p2 fc)), .val (.int (f11 (1 : Int32) p1 p2 fc)), .val (.int (f11 (2 : Int32) p1 p2 fc)), .val (.int (f11 (3 : Int32) p1 p2 fc)), .val (.int (f11 (4 : Int32) p1 p2 fc))] [(.int ((f11 (0 : Int32) p1 p2 fc) + (f11 (1 : Int32) p1 p2 fc)))]))
            refine own_go (fun t_ k_ => XS.iload A22.here hx rfl (hb hby d10_74) rfl k_) ?_
            show own_Go _ _ _ _ (T21.setTop (mkF m 76 #[.val (.ref r0), .val (.int p1), .val (.int p2), .val (.int (f11 (0 : Int32) p1 p2 fc)), .val (.int (f11 (1 : Int32) p1 p2 fc)), .val (.int (f11 (2 : Int32) p1 p2 fc)), .val (.int (f11 (3 : Int32) p1 p2 fc)), .val (.int (f11 (4 : Int32) p1 p2 fc))] [(.int (f11 (2 : Int32) p1 p2 fc)), (.int ((f11 (0 : Int32) p1 p2 fc) + (f11 (1 : Int32) p1 p2 fc)))]))
            refine own_go (fun t_ k_ => XS.iadd A22.here hx rfl (hb hby d10_76) rfl k_) ?_
            show own_Go _ _ _ _ (T21.setTop (mkF m 77 #[.val (.ref r0), .val (.int p1), .val (.int p2), .val (.int (f11 (0 : Int32) p1 p2 fc)), .val (.int (f11 (1 : Int32) p1 p2 fc)), .val (.int (f11 (2 : Int32) p1 p2 fc)), .val (.int (f11 (3 : Int32) p1 p2 fc)), .val (.int (f11 (4 : Int32) p1 p2 fc))] [(.int (((f11 (0 : Int32) p1 p2 fc) + (f11 (1 : Int32) p1 p2 fc)) + (f11 (2 : Int32) p1 p2 fc)))]))
            generalize hx31 : (((f11 (0 : Int32) p1 p2 fc) + (f11 (1 : Int32) p1 p2 fc)) + (f11 (2 : Int32) p1 p2 fc)) = x31
            show own_Go _ _ _ _ (T21.setTop (mkF m 77 #[.val (.ref r0), .val (.int p1), .val (.int p2), .val (.int (f11 (0 : Int32) p1 p2 fc)), .val (.int (f11 (1 : Int32) p1 p2 fc)), .val (.int (f11 (2 : Int32) p1 p2 fc)), .val (.int (f11 (3 : Int32) p1 p2 fc)), .val (.int (f11 (4 : Int32) p1 p2 fc))] [(.int x31)]))
            refine own_go (fun t_ k_ => XS.iload A22.here hx rfl (hb hby d10_77) rfl k_) ?_
            show own_Go _ _ _ _ (T21.setTop (mkF m 79 #[.val (.ref r0), .val (.int p1), .val (.int p2), .val (.int (f11 (0 : Int32) p1 p2 fc)), .val (.int (f11 (1 : Int32) p1 p2 fc)), .val (.int (f11 (2 : Int32) p1 p2 fc)), .val (.int (f11 (3 : Int32) p1 p2 fc)), .val (.int (f11 (4 : Int32) p1 p2 fc))] [(.int (f11 (3 : Int32) p1 p2 fc)), (.int x31)]))
            refine own_go (fun t_ k_ => XS.iadd A22.here hx rfl (hb hby d10_79) rfl k_) ?_
            show own_Go _ _ _ _ (T21.setTop (mkF m 80 #[.val (.ref r0), .val (.int p1), .val (.int p2), .val (.int (f11 (0 : Int32) p1 p2 fc)), .val (.int (f11 (1 : Int32) p1 p2 fc)), .val (.int (f11 (2 : Int32) p1 p2 fc)), .val (.int (f11 (3 : Int32) p1 p2 fc)), .val (.int (f11 (4 : Int32) p1 p2 fc))] [(.int (x31 + (f11 (3 : Int32) p1 p2 fc)))]))
            refine own_go (fun t_ k_ => XS.iload A22.here hx rfl (hb hby d10_80) rfl k_) ?_
            show own_Go _ _ _ _ (T21.setTop (mkF m 82 #[.val (.ref r0), .val (.int p1), .val (.int p2), .val (.int (f11 (0 : Int32) p1 p2 fc)), .val (.int (f11 (1 : Int32) p1 p2 fc)), .val (.int (f11 (2 : Int32) p1 p2 fc)), .val (.int (f11 (3 : Int32) p1 p2 fc)), .val (.int (f11 (4 : Int32) p1 p2 fc))] [(.int (f11 (4 : Int32) p1 p2 fc)), (.int (x31 + (f11 (3 : Int32) p1 p2 fc)))]))
            refine own_go (fun t_ k_ => XS.iadd A22.here hx rfl (hb hby d10_82) rfl k_) ?_
            show own_Go _ _ _ _ (T21.setTop (mkF m 83 #[.val (.ref r0), .val (.int p1), .val (.int p2), .val (.int (f11 (0 : Int32) p1 p2 fc)), .val (.int (f11 (1 : Int32) p1 p2 fc)), .val (.int (f11 (2 : Int32) p1 p2 fc)), .val (.int (f11 (3 : Int32) p1 p2 fc)), .val (.int (f11 (4 : Int32) p1 p2 fc))] [(.int ((x31 + (f11 (3 : Int32) p1 p2 fc)) + (f11 (4 : Int32) p1 p2 fc)))]))
            refine own_retI A22 hx hret hlk (by decide) (by decide) (hb hby d10_83) ?_
            subst hx31
            exact ⟨congrArg (fun z => some (Value.int z)) (by simp only [f10, if_neg hc26, if_neg hc27, if_neg hc28, if_neg hc29, if_neg hc30]), rfl⟩
theorem ef_18 (m : MethodId) (p0 : Int32) (p1 : Int32) (u2 : Value) (hr_u2 : u2.isRef = true) : entryFrame m #[(.int p0), (.int p1), u2] 3 = mkF m 0 #[.val (.int p0), .val (.int p1), .val u2] [] := by
  cases u2 <;> first | rfl | contradiction
theorem pn_18 : plainName "jdk/internal/util/Preconditions" = true := by first | (simp [plainName, overriddenIn]; done) | decide +kernel
theorem d18_0 : decode jdk_41_method_11_code 0 = .ok (.iload_n 0, 1) := by decide +kernel
theorem d18_1 : decode jdk_41_method_11_code 1 = .ok (.ifCond .lt 8, 3) := by decide +kernel
theorem d18_4 : decode jdk_41_method_11_code 4 = .ok (.iload_n 0, 1) := by decide +kernel
theorem d18_5 : decode jdk_41_method_11_code 5 = .ok (.iload_n 1, 1) := by decide +kernel
theorem d18_6 : decode jdk_41_method_11_code 6 = .ok (.if_icmp .lt 10, 3) := by decide +kernel
theorem d18_16 : decode jdk_41_method_11_code 16 = .ok (.iload_n 0, 1) := by decide +kernel
theorem d18_17 : decode jdk_41_method_11_code 17 = .ok (.ireturn, 1) := by decide +kernel
def f18 (p0 : Int32) (p1 : Int32) (u2 : Value) : Int32 := p0
set_option maxRecDepth 65536 in
set_option maxHeartbeats 40000000 in
theorem rm18 (l : Launch) (Z : State) (a0 : Array Value) (hw : ∀ d ∈ tables_1, d.before a0 Z = true) (p0 : Int32) (p1 : Int32) (u2 : Value) (h0 : Heap) (n0 : Nat) (hr_u2 : u2.isRef = true) (hi0 : ¬ p0 < 0) (hi1 : p0 < p1) :
    own_Met l Z n0 (⟨"jdk/internal/util/Preconditions", "checkIndex", "(IILjava/util/function/BiFunction;)I"⟩ : MethodName) jdk_41_method_11_code 3 (some .int) ({ frames := 0, cells := 0, slots := 0, locals := 0 } : Room) #[(.int p0), (.int p1), u2] h0 (fun v h => v = some (.int (f18 p0 p1 u2)) ∧ h0 = h) := by
  refine own_met (plainFor_of_name pn_18) ?_
  intro p e s m below meth c T0 hx hby hml hown hnm hret hlk hZ A0
  rw [ef_18 m p0 p1 u2 hr_u2]
  show own_Go _ _ _ _ (T0.setTop (mkF m 0 #[.val (.int p0), .val (.int p1), .val u2] []))
  refine own_go (fun t_ k_ => XS.iloadN A0.here hx rfl (hb hby d18_0) rfl k_) ?_
  show own_Go _ _ _ _ (T0.setTop (mkF m 1 #[.val (.int p0), .val (.int p1), .val u2] [(.int p0)]))
  have hc1 : ¬ (p0 < (0 : Int32)) := hi0
  refine own_go (fun t_ k_ => XS.ifNo A0.here hx rfl (hb hby d18_1) rfl ((if0 _ _).trans (flt hc1).1) k_) ?_
  show own_Go _ _ _ _ (T0.setTop (mkF m 4 #[.val (.int p0), .val (.int p1), .val u2] []))
  refine own_go (fun t_ k_ => XS.iloadN A0.here hx rfl (hb hby d18_4) rfl k_) ?_
  show own_Go _ _ _ _ (T0.setTop (mkF m 5 #[.val (.int p0), .val (.int p1), .val u2] [(.int p0)]))
  refine own_go (fun t_ k_ => XS.iloadN A0.here hx rfl (hb hby d18_5) rfl k_) ?_
  show own_Go _ _ _ _ (T0.setTop (mkF m 6 #[.val (.int p0), .val (.int p1), .val u2] [(.int p1), (.int p0)]))
  have hc2 : p0 < p1 := hi1
  refine own_go (fun t_ k_ => XS.icmpYes A0.here hx rfl (pc0 := 6) (pc' := 16) rfl (hb hby d18_6) rfl (tlt hc2).1 (by decide) (by decide) k_) ?_
  show own_Go _ _ _ _ (T0.setTop (mkF m 16 #[.val (.int p0), .val (.int p1), .val u2] []))
  refine own_go (fun t_ k_ => XS.iloadN A0.here hx rfl (hb hby d18_16) rfl k_) ?_
  show own_Go _ _ _ _ (T0.setTop (mkF m 17 #[.val (.int p0), .val (.int p1), .val u2] [(.int p0)]))
  refine own_retI A0 hx hret hlk (by decide) (by decide) (hb hby d18_17) ?_
  exact ⟨rfl, rfl⟩
theorem ef_17 (m : MethodId) (p0 : Int32) (p1 : Int32) : entryFrame m #[(.int p0), (.int p1)] 2 = mkF m 0 #[.val (.int p0), .val (.int p1)] [] := by first | (simp [entryFrame, mkF, argsToLocals, Value.category]; done) | rfl
theorem pn_17 : plainName "java/lang/String" = true := by first | (simp [plainName, overriddenIn]; done) | decide +kernel
theorem d17_0 : decode jdk_42_method_155_code 0 = .ok (.iload_n 0, 1) := by decide +kernel
theorem d17_1 : decode jdk_42_method_155_code 1 = .ok (.iload_n 1, 1) := by decide +kernel
theorem d17_2 : decode jdk_42_method_155_code 2 = .ok (.getstatic 1053, 3) := by decide +kernel
theorem d17_5 : decode jdk_42_method_155_code 5 = .ok (.invokestatic 1059, 3) := by decide +kernel
theorem pd__IILjava_util_function_BiFunction__I : parseMethodDescriptor "(IILjava/util/function/BiFunction;)I" = some ⟨[.int, .int, (.object "java/util/function/BiFunction")], some .int⟩ := by decide +kernel
theorem d17_8 : decode jdk_42_method_155_code 8 = .ok (.pop, 1) := by decide +kernel
theorem d17_9 : decode jdk_42_method_155_code 9 = .ok (.return_, 1) := by decide +kernel
set_option maxRecDepth 65536 in
set_option maxHeartbeats 40000000 in
theorem rm17 (l : Launch) (Z : State) (a0 : Array Value) (hw : ∀ d ∈ tables_1, d.before a0 Z = true) (p0 : Int32) (p1 : Int32) (s_F : Value) (h0 : Heap) (n0 : Nat) (hi0 : ¬ p0 < 0) (hi1 : p0 < p1) (S_F : Sta Z h0 "jdk/internal/util/Preconditions" "SIOOBE_FORMATTER" "Ljava/util/function/BiFunction;" s_F) (hr_F : s_F.isRef = true) :
    own_Met l Z n0 (⟨"java/lang/String", "checkIndex", "(II)V"⟩ : MethodName) jdk_42_method_155_code 2 none ({ frames := 1, cells := 0, slots := 0, locals := 14 } : Room) #[(.int p0), (.int p1)] h0 (fun v h => v = none ∧ h0 = h) := by
  refine own_met (plainFor_of_name pn_17) ?_
  intro p e s m below meth c T0 hx hby hml hown hnm hret hlk hZ A0
  rw [ef_17]
  show own_Go _ _ _ _ (T0.setTop (mkF m 0 #[.val (.int p0), .val (.int p1)] []))
  refine own_go (fun t_ k_ => XS.iloadN A0.here hx rfl (hb hby d17_0) rfl k_) ?_
  show own_Go _ _ _ _ (T0.setTop (mkF m 1 #[.val (.int p0), .val (.int p1)] [(.int p0)]))
  refine own_go (fun t_ k_ => XS.iloadN A0.here hx rfl (hb hby d17_1) rfl k_) ?_
  show own_Go _ _ _ _ (T0.setTop (mkF m 2 #[.val (.int p0), .val (.int p1)] [(.int p1), (.int p0)]))
  refine own_getS A0 hx hZ hown (host := "") (Or.inl (hw _ (List.mem_of_getElem? (i := 74) rfl))) Via.refl S_F rfl (hb hby d17_2) (fun T1 A2 => ?_)
  show own_Go _ _ _ _ (T1.setTop (mkF m 5 #[.val (.int p0), .val (.int p1)] [s_F, (.int p1), (.int p0)]))
  refine own_callS A2 hx hZ hown (y := (⟨"jdk/internal/util/Preconditions", "checkIndex", "(IILjava/util/function/BiFunction;)I"⟩ : MethodName)) (hw _ (List.mem_of_getElem? (i := 76) rfl)) (hw _ (List.mem_of_getElem? (i := 77) rfl)) (hw _ (List.mem_of_getElem? (i := 75) rfl)) (hw _ (List.mem_of_getElem? (i := 78) rfl)) (by decide) (argsL := [(.int p0), (.int p1), s_F]) (rest := []) (rm18 l Z a0 hw p0 p1 s_F h0 n0 hr_F hi0 hi1) 0 (by decide) (by decide) rfl (by rw [hml]; rfl) (lenOf pd__IILjava_util_function_BiFunction__I rfl) rfl (by show 2 * 0 + _ ≤ _; exact Nat.le_of_eq rfl) (hb hby d17_5) (by decide) (by decide) (fun v6 T3 h5 A4 hQ7 => ?_)
  obtain ⟨rfl, rfl⟩ := hQ7
  show own_Go _ _ _ _ (T3.setTop (mkF m 8 #[.val (.int p0), .val (.int p1)] [(.int (f18 p0 p1 s_F))]))
  refine own_go (fun t_ k_ => XS.pop A4.here hx rfl (hb hby d17_8) rfl rfl k_) ?_
  show own_Go _ _ _ _ (T3.setTop (mkF m 9 #[.val (.int p0), .val (.int p1)] []))
  refine own_retV A4 hx hret hlk (by decide) (by decide) (hb hby d17_9) ?_
  exact ⟨rfl, rfl⟩
theorem ef_15 (m : MethodId) (r0 : Addr) : entryFrame m #[(.ref r0)] 1 = mkF m 0 #[.val (.ref r0)] [] := by first | (simp [entryFrame, mkF, argsToLocals, Value.category]; done) | rfl
theorem d15_0 : decode jdk_42_method_154_code 0 = .ok (.getstatic 38, 3) := by decide +kernel
theorem d15_3 : decode jdk_42_method_154_code 3 = .ok (.ifCond .eq 14, 3) := by decide +kernel
theorem d15_6 : decode jdk_42_method_154_code 6 = .ok (.aload_n 0, 1) := by decide +kernel
theorem d15_7 : decode jdk_42_method_154_code 7 = .ok (.getfield 15, 3) := by decide +kernel
theorem d15_10 : decode jdk_42_method_154_code 10 = .ok (.ifCond .ne 7, 3) := by decide +kernel
theorem d15_13 : decode jdk_42_method_154_code 13 = .ok (.iconst 1, 1) := by decide +kernel
theorem d15_14 : decode jdk_42_method_154_code 14 = .ok (.goto 4, 3) := by decide +kernel
theorem d15_18 : decode jdk_42_method_154_code 18 = .ok (.ireturn, 1) := by decide +kernel
def f15 (z_C : Int32) : Int32 := (1 : Int32)
set_option maxRecDepth 65536 in
set_option maxHeartbeats 40000000 in
theorem rm15 (l : Launch) (Z : State) (a0 : Array Value) (hw : ∀ d ∈ tables_1, d.before a0 Z = true) (r0 : Addr) (z_C : Int32) (h0 : Heap) (n0 : Nat) (Fc : Fld Z h0 r0 "java/lang/String" "coder" "B" (.int (0 : Int32))) (S_C : Sta Z h0 "java/lang/String" "COMPACT_STRINGS" "Z" (.int z_C)) (hz : ¬ z_C = 0) :
    own_Met l Z n0 (⟨"java/lang/String", "isLatin1", "()Z"⟩ : MethodName) jdk_42_method_154_code 1 (some .boolean) ({ frames := 0, cells := 0, slots := 0, locals := 0 } : Room) #[(.ref r0)] h0 (fun v h => v = some (.int (f15 z_C)) ∧ h0 = h) := by
  refine own_met (plainFor_of_name pn_17) ?_
  intro p e s m below meth c T0 hx hby hml hown hnm hret hlk hZ A0
  rw [ef_15]
  show own_Go _ _ _ _ (T0.setTop (mkF m 0 #[.val (.ref r0)] []))
  refine own_getS A0 hx hZ hown (host := "") (Or.inl (hw _ (List.mem_of_getElem? (i := 20) rfl))) Via.refl S_C rfl (hb hby d15_0) (fun T1 A2 => ?_)
  show own_Go _ _ _ _ (T1.setTop (mkF m 3 #[.val (.ref r0)] [(.int z_C)]))
  have hc3 : ¬ (z_C = (0 : Int32)) := hz
  refine own_go (fun t_ k_ => XS.ifNo A2.here hx rfl (hb hby d15_3) rfl ((if0 _ _).trans (feq hc3).1) k_) ?_
  show own_Go _ _ _ _ (T1.setTop (mkF m 6 #[.val (.ref r0)] []))
  refine own_go (fun t_ k_ => XS.aloadN A2.here hx rfl (hb hby d15_6) rfl rfl k_) ?_
  show own_Go _ _ _ _ (T1.setTop (mkF m 7 #[.val (.ref r0)] [(.ref r0)]))
  refine own_getF A2 hx hZ hown (host := "") (Or.inl (hw _ (List.mem_of_getElem? (i := 32) rfl))) Via.refl Fc rfl rfl (hb hby d15_7) (fun T4 A5 => ?_)
  show own_Go _ _ _ _ (T4.setTop (mkF m 10 #[.val (.ref r0)] [(.int (0 : Int32))]))
  have hc6 : (0 : Int32) = (0 : Int32) := (by decide)
  refine own_go (fun t_ k_ => XS.ifNo A5.here hx rfl (hb hby d15_10) rfl ((if0 _ _).trans (teq hc6).2) k_) ?_
  show own_Go _ _ _ _ (T4.setTop (mkF m 13 #[.val (.ref r0)] []))
  refine own_go (fun t_ k_ => XS.iconst A5.here hx rfl (hb hby d15_13) k_) ?_
  show own_Go _ _ _ _ (T4.setTop (mkF m 14 #[.val (.ref r0)] [(.int (1 : Int32))]))
  refine own_go (fun t_ k_ => XS.goto A5.here hx rfl (pc0 := 14) (pc' := 18) rfl (hb hby d15_14) (by decide) (by decide) k_) ?_
  show own_Go _ _ _ _ (T4.setTop (mkF m 18 #[.val (.ref r0)] [(.int (1 : Int32))]))
  refine own_retN A5 hx (t := .boolean) hret (by simp) hlk (by decide) (by decide) (hb hby d15_18) ?_
  exact ⟨rfl, rfl⟩
theorem ef_16 (m : MethodId) (r0 : Addr) (p1 : Int32) : entryFrame m #[(.ref r0), (.int p1)] 2 = mkF m 0 #[.val (.ref r0), .val (.int p1)] [] := by first | (simp [entryFrame, mkF, argsToLocals, Value.category]; done) | rfl
theorem pn_16 : plainName "java/lang/StringLatin1" = true := by first | (simp [plainName, overriddenIn]; done) | decide +kernel
theorem d16_0 : decode jdk_43_method_2_code 0 = .ok (.iload_n 1, 1) := by decide +kernel
theorem d16_1 : decode jdk_43_method_2_code 1 = .ok (.aload_n 0, 1) := by decide +kernel
theorem d16_2 : decode jdk_43_method_2_code 2 = .ok (.arraylength, 1) := by decide +kernel
theorem d16_3 : decode jdk_43_method_2_code 3 = .ok (.invokestatic 9, 3) := by decide +kernel
theorem pd__II_V : parseMethodDescriptor "(II)V" = some ⟨[.int, .int], none⟩ := by decide +kernel
theorem d16_6 : decode jdk_43_method_2_code 6 = .ok (.aload_n 0, 1) := by decide +kernel
theorem d16_7 : decode jdk_43_method_2_code 7 = .ok (.iload_n 1, 1) := by decide +kernel
theorem d16_8 : decode jdk_43_method_2_code 8 = .ok (.baload, 1) := by decide +kernel
theorem d16_9 : decode jdk_43_method_2_code 9 = .ok (.sipush 255, 3) := by decide +kernel
theorem d16_12 : decode jdk_43_method_2_code 12 = .ok (.iand, 1) := by decide +kernel
theorem d16_13 : decode jdk_43_method_2_code 13 = .ok (.i2c, 1) := by decide +kernel
theorem d16_14 : decode jdk_43_method_2_code 14 = .ok (.ireturn, 1) := by decide +kernel
def f16 (p1 : Int32) (g : Int32 → Int32) (s_F : Value) : Int32 := (nar .char (((g p1) &&& (255 : Int32)).toUInt32.toUInt16.toUInt32.toInt32))
set_option maxRecDepth 65536 in
set_option maxHeartbeats 40000000 in
theorem rm16 (l : Launch) (Z : State) (a0 : Array Value) (hw : ∀ d ∈ tables_1, d.before a0 Z = true) (r0 : Addr) (p1 : Int32) (g : Int32 → Int32) (s_F : Value) (h0 : Heap) (n0 : Nat) (V0 : own_Arr Z h0 r0 .byte (5 : Int32) g) (hi0 : ¬ p1 < 0) (hi1 : p1 < (5 : Int32)) (S_F : Sta Z h0 "jdk/internal/util/Preconditions" "SIOOBE_FORMATTER" "Ljava/util/function/BiFunction;" s_F) (hr_F : s_F.isRef = true) :
    own_Met l Z n0 (⟨"java/lang/StringLatin1", "charAt", "([BI)C"⟩ : MethodName) jdk_43_method_2_code 2 (some .char) ({ frames := 2, cells := 0, slots := 0, locals := 27 } : Room) #[(.ref r0), (.int p1)] h0 (fun v h => v = some (.int (f16 p1 g s_F)) ∧ h0 = h) := by
  refine own_met (plainFor_of_name pn_16) ?_
  intro p e s m below meth c T0 hx hby hml hown hnm hret hlk hZ A0
  rw [ef_16]
  show own_Go _ _ _ _ (T0.setTop (mkF m 0 #[.val (.ref r0), .val (.int p1)] []))
  refine own_go (fun t_ k_ => XS.iloadN A0.here hx rfl (hb hby d16_0) rfl k_) ?_
  show own_Go _ _ _ _ (T0.setTop (mkF m 1 #[.val (.ref r0), .val (.int p1)] [(.int p1)]))
  refine own_go (fun t_ k_ => XS.aloadN A0.here hx rfl (hb hby d16_1) rfl rfl k_) ?_
  show own_Go _ _ _ _ (T0.setTop (mkF m 2 #[.val (.ref r0), .val (.int p1)] [(.ref r0), (.int p1)]))
  refine own_len A0 hx hZ V0 rfl rfl (hb hby d16_2) ?_
  show own_Go _ _ _ _ (T0.setTop (mkF m 3 #[.val (.ref r0), .val (.int p1)] [(.int (5 : Int32)), (.int p1)]))
  refine own_callS A0 hx hZ hown (y := (⟨"java/lang/String", "checkIndex", "(II)V"⟩ : MethodName)) (hw _ (List.mem_of_getElem? (i := 71) rfl)) (hw _ (List.mem_of_getElem? (i := 72) rfl)) (hw _ (List.mem_of_getElem? (i := 9) rfl)) (hw _ (List.mem_of_getElem? (i := 73) rfl)) (by decide) (argsL := [(.int p1), (.int (5 : Int32))]) (rest := []) (rm17 l Z a0 hw p1 (5 : Int32) s_F h0 n0 hi0 hi1 S_F hr_F) 0 (by decide) (by decide) rfl (by rw [hml]; rfl) (lenOf pd__II_V rfl) rfl (by show 2 * 0 + _ ≤ _; exact Nat.le_of_eq rfl) (hb hby d16_3) (by decide) (by decide) (fun v4 T1 h3 A2 hQ5 => ?_)
  obtain ⟨rfl, rfl⟩ := hQ5
  show own_Go _ _ _ _ (T1.setTop (mkF m 6 #[.val (.ref r0), .val (.int p1)] []))
  refine own_go (fun t_ k_ => XS.aloadN A2.here hx rfl (hb hby d16_6) rfl rfl k_) ?_
  show own_Go _ _ _ _ (T1.setTop (mkF m 7 #[.val (.ref r0), .val (.int p1)] [(.ref r0)]))
  refine own_go (fun t_ k_ => XS.iloadN A2.here hx rfl (hb hby d16_7) rfl k_) ?_
  show own_Go _ _ _ _ (T1.setTop (mkF m 8 #[.val (.ref r0), .val (.int p1)] [(.int p1), (.ref r0)]))
  refine own_ldB A2 hx hZ V0 ⟨hi0, hi1⟩ rfl rfl (hb hby d16_8) ?_
  show own_Go _ _ _ _ (T1.setTop (mkF m 9 #[.val (.ref r0), .val (.int p1)] [(.int (g p1))]))
  refine own_go (fun t_ k_ => XS.sipush A2.here hx rfl (hb hby d16_9) k_) ?_
  show own_Go _ _ _ _ (T1.setTop (mkF m 12 #[.val (.ref r0), .val (.int p1)] [(.int (255 : Int32)), (.int (g p1))]))
  refine own_go (fun t_ k_ => XS.iand A2.here hx rfl (hb hby d16_12) rfl k_) ?_
  show own_Go _ _ _ _ (T1.setTop (mkF m 13 #[.val (.ref r0), .val (.int p1)] [(.int ((g p1) &&& (255 : Int32)))]))
  refine own_go (fun t_ k_ => XS.i2c A2.here hx rfl (hb hby d16_13) rfl k_) ?_
  show own_Go _ _ _ _ (T1.setTop (mkF m 14 #[.val (.ref r0), .val (.int p1)] [(.int (((g p1) &&& (255 : Int32)).toUInt32.toUInt16.toUInt32.toInt32))]))
  refine own_retN A2 hx (t := .char) hret (by simp) hlk (by decide) (by decide) (hb hby d16_14) ?_
  exact ⟨rfl, rfl⟩
theorem ef_14 (m : MethodId) (r0 : Addr) (p1 : Int32) : entryFrame m #[(.ref r0), (.int p1)] 2 = mkF m 0 #[.val (.ref r0), .val (.int p1)] [] := by first | (simp [entryFrame, mkF, argsToLocals, Value.category]; done) | rfl
theorem d14_0 : decode jdk_42_method_56_code 0 = .ok (.aload_n 0, 1) := by decide +kernel
theorem d14_1 : decode jdk_42_method_56_code 1 = .ok (.invokevirtual 492, 3) := by decide +kernel
theorem pd___Z : parseMethodDescriptor "()Z" = some ⟨[], some .boolean⟩ := by decide +kernel
theorem d14_4 : decode jdk_42_method_56_code 4 = .ok (.ifCond .eq 12, 3) := by decide +kernel
theorem d14_7 : decode jdk_42_method_56_code 7 = .ok (.aload_n 0, 1) := by decide +kernel
theorem d14_8 : decode jdk_42_method_56_code 8 = .ok (.getfield 9, 3) := by decide +kernel
theorem d14_11 : decode jdk_42_method_56_code 11 = .ok (.iload_n 1, 1) := by decide +kernel
theorem d14_12 : decode jdk_42_method_56_code 12 = .ok (.invokestatic 495, 3) := by decide +kernel
theorem pd___BI_C : parseMethodDescriptor "([BI)C" = some ⟨[(.array .byte), .int], some .char⟩ := by decide +kernel
theorem d14_15 : decode jdk_42_method_56_code 15 = .ok (.ireturn, 1) := by decide +kernel
def f14 (p1 : Int32) (g : Int32 → Int32) (z_C : Int32) (s_F : Value) : Int32 := (nar .char (f16 p1 g s_F))
set_option maxRecDepth 65536 in
set_option maxHeartbeats 40000000 in
theorem rm14 (l : Launch) (Z : State) (a0 : Array Value) (hw : ∀ d ∈ tables_1, d.before a0 Z = true) (r0 : Addr) (p1 : Int32) (t0 : Addr) (g : Int32 → Int32) (z_C : Int32) (s_F : Value) (h0 : Heap) (n0 : Nat) (E0 : Exa Z h0 r0 "java/lang/String") (Fc : Fld Z h0 r0 "java/lang/String" "coder" "B" (.int (0 : Int32))) (Fv : Fld Z h0 r0 "java/lang/String" "value" "[B" (.ref t0)) (V0 : own_Arr Z h0 t0 .byte (5 : Int32) g) (hi0 : ¬ p1 < 0) (hi1 : p1 < (5 : Int32)) (S_C : Sta Z h0 "java/lang/String" "COMPACT_STRINGS" "Z" (.int z_C)) (hz : ¬ z_C = 0) (S_F : Sta Z h0 "jdk/internal/util/Preconditions" "SIOOBE_FORMATTER" "Ljava/util/function/BiFunction;" s_F) (hr_F : s_F.isRef = true) :
    own_Met l Z n0 (⟨"java/lang/String", "charAt", "(I)C"⟩ : MethodName) jdk_42_method_56_code 2 (some .char) ({ frames := 3, cells := 0, slots := 0, locals := 40 } : Room) #[(.ref r0), (.int p1)] h0 (fun v h => v = some (.int (f14 p1 g z_C s_F)) ∧ h0 = h) := by
  refine own_met (plainFor_of_name pn_17) ?_
  intro p e s m below meth c T0 hx hby hml hown hnm hret hlk hZ A0
  rw [ef_14]
  show own_Go _ _ _ _ (T0.setTop (mkF m 0 #[.val (.ref r0), .val (.int p1)] []))
  refine own_go (fun t_ k_ => XS.aloadN A0.here hx rfl (hb hby d14_0) rfl rfl k_) ?_
  show own_Go _ _ _ _ (T0.setTop (mkF m 1 #[.val (.ref r0), .val (.int p1)] [(.ref r0)]))
  refine own_callV A0 hx hZ (y := (⟨"java/lang/String", "isLatin1", "()Z"⟩ : MethodName)) (z := (⟨"java/lang/String", "isLatin1", "()Z"⟩ : MethodName)) hown (hw _ (List.mem_of_getElem? (i := 62) rfl)) (hw _ (List.mem_of_getElem? (i := 63) rfl)) (hw _ (List.mem_of_getElem? (i := 65) rfl)) (hw _ (List.mem_of_getElem? (i := 64) rfl)) (hw _ (List.mem_of_getElem? (i := 9) rfl)) (hw _ (List.mem_of_getElem? (i := 66) rfl)) (notFace_of_selects (args := #[]) (mvT hZ (hw _ (List.mem_of_getElem? (i := 65) rfl)))) (by decide) (b := r0) (argsL := []) (rest := []) E0 (rm15 l Z a0 hw r0 z_C h0 n0 Fc S_C hz) 0 (by decide) (by decide) rfl (by rw [hml]; rfl) (lenOf pd___Z rfl) rfl (by show 2 * 0 + _ ≤ _; exact Nat.le_of_eq rfl) (hb hby d14_1) (by decide) (by decide) (fun v4 T1 h3 A2 hQ5 => ?_)
  obtain ⟨rfl, rfl⟩ := hQ5
  show own_Go _ _ _ _ (T1.setTop (mkF m 4 #[.val (.ref r0), .val (.int p1)] [(.int (f15 z_C))]))
  have hc6 : ¬ ((f15 z_C) = (0 : Int32)) := (show ¬ (1 : Int32) = 0 by decide)
  refine own_go (fun t_ k_ => XS.ifNo A2.here hx rfl (hb hby d14_4) rfl ((if0 _ _).trans (feq hc6).1) k_) ?_
  show own_Go _ _ _ _ (T1.setTop (mkF m 7 #[.val (.ref r0), .val (.int p1)] []))
  refine own_go (fun t_ k_ => XS.aloadN A2.here hx rfl (hb hby d14_7) rfl rfl k_) ?_
  show own_Go _ _ _ _ (T1.setTop (mkF m 8 #[.val (.ref r0), .val (.int p1)] [(.ref r0)]))
  refine own_getF A2 hx hZ hown (host := "") (Or.inl (hw _ (List.mem_of_getElem? (i := 34) rfl))) Via.refl Fv rfl rfl (hb hby d14_8) (fun T7 A8 => ?_)
  show own_Go _ _ _ _ (T7.setTop (mkF m 11 #[.val (.ref r0), .val (.int p1)] [(.ref t0)]))
  refine own_go (fun t_ k_ => XS.iloadN A8.here hx rfl (hb hby d14_11) rfl k_) ?_
  show own_Go _ _ _ _ (T7.setTop (mkF m 12 #[.val (.ref r0), .val (.int p1)] [(.int p1), (.ref t0)]))
  refine own_callS A8 hx hZ hown (y := (⟨"java/lang/StringLatin1", "charAt", "([BI)C"⟩ : MethodName)) (hw _ (List.mem_of_getElem? (i := 67) rfl)) (hw _ (List.mem_of_getElem? (i := 68) rfl)) (hw _ (List.mem_of_getElem? (i := 69) rfl)) (hw _ (List.mem_of_getElem? (i := 70) rfl)) (by decide) (argsL := [(.ref t0), (.int p1)]) (rest := []) (rm16 l Z a0 hw t0 p1 g s_F h0 n0 V0 hi0 hi1 S_F hr_F) 0 (by decide) (by decide) rfl (by rw [hml]; rfl) (lenOf pd___BI_C rfl) rfl (by show 2 * 0 + _ ≤ _; exact Nat.le_of_eq rfl) (hb hby d14_12) (by decide) (by decide) (fun v12 T9 h11 A10 hQ13 => ?_)
  obtain ⟨rfl, rfl⟩ := hQ13
  show own_Go _ _ _ _ (T9.setTop (mkF m 15 #[.val (.ref r0), .val (.int p1)] [(.int (f16 p1 g s_F))]))
  refine own_retN A10 hx (t := .char) hret (by simp) hlk (by decide) (by decide) (hb hby d14_15) ?_
  exact ⟨rfl, rfl⟩
def own_parse (F : Int32 → Int32) : Nat → Nat → Int32 → Int32
  | 0, _, acc => acc
  | n + 1, i, acc => if F (Int32.ofNat i) < 48 then -1 else if 57 < F (Int32.ofNat i) then -1 else own_parse F n (i + 1) (acc * 10 + F (Int32.ofNat i) - 48)
theorem d13_5 : decode prog_2_method_2_code 5 = .ok (.iload 4, 2) := by decide +kernel
theorem d13_7 : decode prog_2_method_2_code 7 = .ok (.iload_n 2, 1) := by decide +kernel
theorem d13_8 : decode prog_2_method_2_code 8 = .ok (.if_icmp .ge 44, 3) := by decide +kernel
theorem d13_52 : decode prog_2_method_2_code 52 = .ok (.iload_n 3, 1) := by decide +kernel
theorem d13_53 : decode prog_2_method_2_code 53 = .ok (.ireturn, 1) := by decide +kernel
theorem d13_11 : decode prog_2_method_2_code 11 = .ok (.aload_n 0, 1) := by decide +kernel
theorem d13_12 : decode prog_2_method_2_code 12 = .ok (.iload 4, 2) := by decide +kernel
theorem d13_14 : decode prog_2_method_2_code 14 = .ok (.invokevirtual 7, 3) := by decide +kernel
theorem pd__I_C : parseMethodDescriptor "(I)C" = some ⟨[.int], some .char⟩ := by decide +kernel
theorem d13_17 : decode prog_2_method_2_code 17 = .ok (.istore 5, 2) := by decide +kernel
theorem os13_17_vvvvvs {z0 : Value} {z1 : Value} {z2 : Value} {z3 : Value} {z4 : Value} {sl : Slot} {v : Int32} (h : One sl) : storeLocals #[.val z0, .val z1, .val z2, .val z3, .val z4, sl] 5 (.int v) = some #[.val z0, .val z1, .val z2, .val z3, .val z4, .val (.int v)] := by
  rcases h with rfl | ⟨w, rfl, hw⟩
  · rfl
  · cases w <;> first | rfl | (simp [Value.category] at hw)
theorem d13_19 : decode prog_2_method_2_code 19 = .ok (.iload 5, 2) := by decide +kernel
theorem d13_21 : decode prog_2_method_2_code 21 = .ok (.bipush 48, 2) := by decide +kernel
theorem d13_23 : decode prog_2_method_2_code 23 = .ok (.if_icmp .lt 10, 3) := by decide +kernel
theorem d13_33 : decode prog_2_method_2_code 33 = .ok (.iconst (-1), 1) := by decide +kernel
theorem d13_34 : decode prog_2_method_2_code 34 = .ok (.ireturn, 1) := by decide +kernel
theorem d13_26 : decode prog_2_method_2_code 26 = .ok (.iload 5, 2) := by decide +kernel
theorem d13_28 : decode prog_2_method_2_code 28 = .ok (.bipush 57, 2) := by decide +kernel
theorem d13_30 : decode prog_2_method_2_code 30 = .ok (.if_icmp .le 5, 3) := by decide +kernel
theorem d13_35 : decode prog_2_method_2_code 35 = .ok (.iload_n 3, 1) := by decide +kernel
theorem d13_36 : decode prog_2_method_2_code 36 = .ok (.bipush 10, 2) := by decide +kernel
theorem d13_38 : decode prog_2_method_2_code 38 = .ok (.imul, 1) := by decide +kernel
theorem d13_39 : decode prog_2_method_2_code 39 = .ok (.iload 5, 2) := by decide +kernel
theorem d13_41 : decode prog_2_method_2_code 41 = .ok (.iadd, 1) := by decide +kernel
theorem d13_42 : decode prog_2_method_2_code 42 = .ok (.bipush 48, 2) := by decide +kernel
theorem d13_44 : decode prog_2_method_2_code 44 = .ok (.isub, 1) := by decide +kernel
theorem d13_45 : decode prog_2_method_2_code 45 = .ok (.istore_n 3, 1) := by decide +kernel
theorem d13_46 : decode prog_2_method_2_code 46 = .ok (.iinc 4 1, 3) := by decide +kernel
theorem d13_49 : decode prog_2_method_2_code 49 = .ok (.goto (-44), 3) := by decide +kernel
set_option maxRecDepth 65536 in
set_option maxHeartbeats 40000000 in
theorem own_lpP {p : Program} {l : Launch} {e : Env} {s : State} {m : MethodId} {args : Array Value} {below : List Frame} {meth : Method} {c : Code} {Z : State} {a0 : Array Value} {n0 : Nat} (hx : p.tables.exec = Jvm.exec) (hby : c.code = prog_2_method_2_code) (hml : c.maxLocals = 6) (hown : s.vm.findClass "com/example/vestledger/vestledger/Digits" = some m.cls) (hret : meth.sig.returnType = some .int) (hlk : meth.locks = false) (hZ : Z.Warmed39 s.vm) (hw : ∀ d ∈ tables_1, d.before a0 Z = true) (r0 t0 : Addr) (g : Int32 → Int32) (z_C : Int32) (s_F : Value) (h0 : Heap) (E0 : Exa Z h0 r0 "java/lang/String") (Fc : Fld Z h0 r0 "java/lang/String" "coder" "B" (.int (0 : Int32))) (Fv : Fld Z h0 r0 "java/lang/String" "value" "[B" (.ref t0)) (V0 : own_Arr Z h0 t0 .byte (5 : Int32) g) (S_C : Sta Z h0 "java/lang/String" "COMPACT_STRINGS" "Z" (.int z_C)) (hz : ¬ z_C = 0) (S_F : Sta Z h0 "jdk/internal/util/Preconditions" "SIOOBE_FORMATTER" "Ljava/util/function/BiFunction;" s_F) (hr_F : s_F.isRef = true) (p1 : Int32) (hi : Nat) (hhi : hi ≤ 5) : ∀ (n i : Nat) (acc : Int32) (sl : Slot) (T0 : State) (A0 : own_At p l e ({ frames := 4, cells := 0, slots := 0, locals := 53 } : Room) s m args below meth c n0 T0 h0 0 0) (hsl : One sl) (hn : hi = i + n),
    own_Go p.tables e below (own_End n0 s 0 0 (fun v h => v = some (.int (own_parse (fun z => f14 z g z_C s_F) n i acc)) ∧ h0 = h)) (T0.setTop (mkF m 5 #[.val (.ref r0), .val (.int p1), .val (.int (Int32.ofNat hi)), .val (.int acc), .val (.int (Int32.ofNat i)), sl] [])) := by
  intro n
  induction n with
  | zero =>
    intro i acc sl T0 A0 hsl hn
    show own_Go _ _ _ _ (T0.setTop (mkF m 5 #[.val (.ref r0), .val (.int p1), .val (.int (Int32.ofNat hi)), .val (.int acc), .val (.int (Int32.ofNat i)), sl] []))
    have hge : ¬ Int32.ofNat i < Int32.ofNat hi := fun z => by have := (own_nlt (by omega) (by omega)).mp z; omega
    refine own_go (fun t_ k_ => XS.iload A0.here hx rfl (hb hby d13_5) rfl k_) ?_
    show own_Go _ _ _ _ (T0.setTop (mkF m 7 #[.val (.ref r0), .val (.int p1), .val (.int (Int32.ofNat hi)), .val (.int acc), .val (.int (Int32.ofNat i)), sl] [(.int (Int32.ofNat i))]))
    refine own_go (fun t_ k_ => XS.iloadN A0.here hx rfl (hb hby d13_7) rfl k_) ?_
    show own_Go _ _ _ _ (T0.setTop (mkF m 8 #[.val (.ref r0), .val (.int p1), .val (.int (Int32.ofNat hi)), .val (.int acc), .val (.int (Int32.ofNat i)), sl] [(.int (Int32.ofNat hi)), (.int (Int32.ofNat i))]))
    have hc1 : ¬ ((Int32.ofNat i) < (Int32.ofNat hi)) := hge
    refine own_go (fun t_ k_ => XS.icmpYes A0.here hx rfl (pc0 := 8) (pc' := 52) rfl (hb hby d13_8) rfl (flt hc1).2.1 (by decide) (by decide) k_) ?_
    show own_Go _ _ _ _ (T0.setTop (mkF m 52 #[.val (.ref r0), .val (.int p1), .val (.int (Int32.ofNat hi)), .val (.int acc), .val (.int (Int32.ofNat i)), sl] []))
    refine own_go (fun t_ k_ => XS.iloadN A0.here hx rfl (hb hby d13_52) rfl k_) ?_
    show own_Go _ _ _ _ (T0.setTop (mkF m 53 #[.val (.ref r0), .val (.int p1), .val (.int (Int32.ofNat hi)), .val (.int acc), .val (.int (Int32.ofNat i)), sl] [(.int acc)]))
    refine own_retI A0 hx hret hlk (by decide) (by decide) (hb hby d13_53) ?_
    exact ⟨rfl, rfl⟩
  | succ n ih =>
    intro i acc sl T0 A0 hsl hn
    show own_Go _ _ _ _ (T0.setTop (mkF m 5 #[.val (.ref r0), .val (.int p1), .val (.int (Int32.ofNat hi)), .val (.int acc), .val (.int (Int32.ofNat i)), sl] []))
    have hlt : Int32.ofNat i < Int32.ofNat hi := (own_nlt (by omega) (by omega)).mpr (by omega)
    refine own_go (fun t_ k_ => XS.iload A0.here hx rfl (hb hby d13_5) rfl k_) ?_
    show own_Go _ _ _ _ (T0.setTop (mkF m 7 #[.val (.ref r0), .val (.int p1), .val (.int (Int32.ofNat hi)), .val (.int acc), .val (.int (Int32.ofNat i)), sl] [(.int (Int32.ofNat i))]))
    refine own_go (fun t_ k_ => XS.iloadN A0.here hx rfl (hb hby d13_7) rfl k_) ?_
    show own_Go _ _ _ _ (T0.setTop (mkF m 8 #[.val (.ref r0), .val (.int p1), .val (.int (Int32.ofNat hi)), .val (.int acc), .val (.int (Int32.ofNat i)), sl] [(.int (Int32.ofNat hi)), (.int (Int32.ofNat i))]))
    have hc2 : (Int32.ofNat i) < (Int32.ofNat hi) := hlt
    refine own_go (fun t_ k_ => XS.icmpNo A0.here hx rfl (hb hby d13_8) rfl (tlt hc2).2.1 k_) ?_
    show own_Go _ _ _ _ (T0.setTop (mkF m 11 #[.val (.ref r0), .val (.int p1), .val (.int (Int32.ofNat hi)), .val (.int acc), .val (.int (Int32.ofNat i)), sl] []))
    refine own_go (fun t_ k_ => XS.aloadN A0.here hx rfl (hb hby d13_11) rfl rfl k_) ?_
    show own_Go _ _ _ _ (T0.setTop (mkF m 12 #[.val (.ref r0), .val (.int p1), .val (.int (Int32.ofNat hi)), .val (.int acc), .val (.int (Int32.ofNat i)), sl] [(.ref r0)]))
    refine own_go (fun t_ k_ => XS.iload A0.here hx rfl (hb hby d13_12) rfl k_) ?_
    show own_Go _ _ _ _ (T0.setTop (mkF m 14 #[.val (.ref r0), .val (.int p1), .val (.int (Int32.ofNat hi)), .val (.int acc), .val (.int (Int32.ofNat i)), sl] [(.int (Int32.ofNat i)), (.ref r0)]))
    refine own_callV A0 hx hZ (y := (⟨"java/lang/String", "charAt", "(I)C"⟩ : MethodName)) (z := (⟨"java/lang/String", "charAt", "(I)C"⟩ : MethodName)) hown (hw _ (List.mem_of_getElem? (i := 57) rfl)) (hw _ (List.mem_of_getElem? (i := 58) rfl)) (hw _ (List.mem_of_getElem? (i := 60) rfl)) (hw _ (List.mem_of_getElem? (i := 59) rfl)) (hw _ (List.mem_of_getElem? (i := 9) rfl)) (hw _ (List.mem_of_getElem? (i := 61) rfl)) (notFace_of_selects (args := #[]) (mvT hZ (hw _ (List.mem_of_getElem? (i := 60) rfl)))) (by decide) (b := r0) (argsL := [(.int (Int32.ofNat i))]) (rest := []) E0 (rm14 l Z a0 hw r0 (Int32.ofNat i) t0 g z_C s_F h0 n0 E0 Fc Fv V0 (own_nn (by omega)) ((own_nlt (j := 5) (by omega) (by decide)).mpr (by omega)) S_C hz S_F hr_F) 0 (by decide) (by decide) rfl (by rw [hml]; rfl) (lenOf pd__I_C rfl) rfl (by show 2 * 0 + _ ≤ _; exact Nat.le_of_eq rfl) (hb hby d13_14) (by decide) (by decide) (fun v6 T3 h5 A4 hQ7 => ?_)
    obtain ⟨rfl, rfl⟩ := hQ7
    show own_Go _ _ _ _ (T3.setTop (mkF m 17 #[.val (.ref r0), .val (.int p1), .val (.int (Int32.ofNat hi)), .val (.int acc), .val (.int (Int32.ofNat i)), sl] [(.int (f14 (Int32.ofNat i) g z_C s_F))]))
    refine own_go (fun t_ k_ => XS.istore A4.here hx rfl (hb hby d13_17) rfl (l' := #[.val (.ref r0), .val (.int p1), .val (.int (Int32.ofNat hi)), .val (.int acc), .val (.int (Int32.ofNat i)), .val (.int (f14 (Int32.ofNat i) g z_C s_F))]) (os13_17_vvvvvs hsl) k_) ?_
    show own_Go _ _ _ _ (T3.setTop (mkF m 19 #[.val (.ref r0), .val (.int p1), .val (.int (Int32.ofNat hi)), .val (.int acc), .val (.int (Int32.ofNat i)), .val (.int (f14 (Int32.ofNat i) g z_C s_F))] []))
    refine own_go (fun t_ k_ => XS.iload A4.here hx rfl (hb hby d13_19) rfl k_) ?_
    show own_Go _ _ _ _ (T3.setTop (mkF m 21 #[.val (.ref r0), .val (.int p1), .val (.int (Int32.ofNat hi)), .val (.int acc), .val (.int (Int32.ofNat i)), .val (.int (f14 (Int32.ofNat i) g z_C s_F))] [(.int (f14 (Int32.ofNat i) g z_C s_F))]))
    refine own_go (fun t_ k_ => XS.bipush A4.here hx rfl (hb hby d13_21) k_) ?_
    show own_Go _ _ _ _ (T3.setTop (mkF m 23 #[.val (.ref r0), .val (.int p1), .val (.int (Int32.ofNat hi)), .val (.int acc), .val (.int (Int32.ofNat i)), .val (.int (f14 (Int32.ofNat i) g z_C s_F))] [(.int (48 : Int32)), (.int (f14 (Int32.ofNat i) g z_C s_F))]))
    by_cases hc8 : (f14 (Int32.ofNat i) g z_C s_F) < (48 : Int32)
    ·
      refine own_go (fun t_ k_ => XS.icmpYes A4.here hx rfl (pc0 := 23) (pc' := 33) rfl (hb hby d13_23) rfl (tlt hc8).1 (by decide) (by decide) k_) ?_
      show own_Go _ _ _ _ (T3.setTop (mkF m 33 #[.val (.ref r0), .val (.int p1), .val (.int (Int32.ofNat hi)), .val (.int acc), .val (.int (Int32.ofNat i)), .val (.int (f14 (Int32.ofNat i) g z_C s_F))] []))
      refine own_go (fun t_ k_ => XS.iconst A4.here hx rfl (hb hby d13_33) k_) ?_
      show own_Go _ _ _ _ (T3.setTop (mkF m 34 #[.val (.ref r0), .val (.int p1), .val (.int (Int32.ofNat hi)), .val (.int acc), .val (.int (Int32.ofNat i)), .val (.int (f14 (Int32.ofNat i) g z_C s_F))] [(.int (-1 : Int32))]))
      refine own_retI A4 hx hret hlk (by decide) (by decide) (hb hby d13_34) ?_
      exact ⟨congrArg (fun z => some (Value.int z)) (by rw [own_parse, if_pos hc8]), rfl⟩
    ·
      refine own_go (fun t_ k_ => XS.icmpNo A4.here hx rfl (hb hby d13_23) rfl (flt hc8).1 k_) ?_
      show own_Go _ _ _ _ (T3.setTop (mkF m 26 #[.val (.ref r0), .val (.int p1), .val (.int (Int32.ofNat hi)), .val (.int acc), .val (.int (Int32.ofNat i)), .val (.int (f14 (Int32.ofNat i) g z_C s_F))] []))
      refine own_go (fun t_ k_ => XS.iload A4.here hx rfl (hb hby d13_26) rfl k_) ?_
      show own_Go _ _ _ _ (T3.setTop (mkF m 28 #[.val (.ref r0), .val (.int p1), .val (.int (Int32.ofNat hi)), .val (.int acc), .val (.int (Int32.ofNat i)), .val (.int (f14 (Int32.ofNat i) g z_C s_F))] [(.int (f14 (Int32.ofNat i) g z_C s_F))]))
      refine own_go (fun t_ k_ => XS.bipush A4.here hx rfl (hb hby d13_28) k_) ?_
      show own_Go _ _ _ _ (T3.setTop (mkF m 30 #[.val (.ref r0), .val (.int p1), .val (.int (Int32.ofNat hi)), .val (.int acc), .val (.int (Int32.ofNat i)), .val (.int (f14 (Int32.ofNat i) g z_C s_F))] [(.int (57 : Int32)), (.int (f14 (Int32.ofNat i) g z_C s_F))]))
      by_cases hc9 : (57 : Int32) < (f14 (Int32.ofNat i) g z_C s_F)
      ·
        refine own_go (fun t_ k_ => XS.icmpNo A4.here hx rfl (hb hby d13_30) rfl (tlt hc9).2.2.2 k_) ?_
        show own_Go _ _ _ _ (T3.setTop (mkF m 33 #[.val (.ref r0), .val (.int p1), .val (.int (Int32.ofNat hi)), .val (.int acc), .val (.int (Int32.ofNat i)), .val (.int (f14 (Int32.ofNat i) g z_C s_F))] []))
        refine own_go (fun t_ k_ => XS.iconst A4.here hx rfl (hb hby d13_33) k_) ?_
        show own_Go _ _ _ _ (T3.setTop (mkF m 34 #[.val (.ref r0), .val (.int p1), .val (.int (Int32.ofNat hi)), .val (.int acc), .val (.int (Int32.ofNat i)), .val (.int (f14 (Int32.ofNat i) g z_C s_F))] [(.int (-1 : Int32))]))
        refine own_retI A4 hx hret hlk (by decide) (by decide) (hb hby d13_34) ?_
        exact ⟨congrArg (fun z => some (Value.int z)) (by rw [own_parse, if_neg hc8, if_pos hc9]), rfl⟩
      ·
        refine own_go (fun t_ k_ => XS.icmpYes A4.here hx rfl (pc0 := 30) (pc' := 35) rfl (hb hby d13_30) rfl (flt hc9).2.2.2 (by decide) (by decide) k_) ?_
        show own_Go _ _ _ _ (T3.setTop (mkF m 35 #[.val (.ref r0), .val (.int p1), .val (.int (Int32.ofNat hi)), .val (.int acc), .val (.int (Int32.ofNat i)), .val (.int (f14 (Int32.ofNat i) g z_C s_F))] []))
        refine own_go (fun t_ k_ => XS.iloadN A4.here hx rfl (hb hby d13_35) rfl k_) ?_
        show own_Go _ _ _ _ (T3.setTop (mkF m 36 #[.val (.ref r0), .val (.int p1), .val (.int (Int32.ofNat hi)), .val (.int acc), .val (.int (Int32.ofNat i)), .val (.int (f14 (Int32.ofNat i) g z_C s_F))] [(.int acc)]))
        refine own_go (fun t_ k_ => XS.bipush A4.here hx rfl (hb hby d13_36) k_) ?_
        show own_Go _ _ _ _ (T3.setTop (mkF m 38 #[.val (.ref r0), .val (.int p1), .val (.int (Int32.ofNat hi)), .val (.int acc), .val (.int (Int32.ofNat i)), .val (.int (f14 (Int32.ofNat i) g z_C s_F))] [(.int (10 : Int32)), (.int acc)]))
        refine own_go (fun t_ k_ => XS.imul A4.here hx rfl (hb hby d13_38) rfl k_) ?_
        show own_Go _ _ _ _ (T3.setTop (mkF m 39 #[.val (.ref r0), .val (.int p1), .val (.int (Int32.ofNat hi)), .val (.int acc), .val (.int (Int32.ofNat i)), .val (.int (f14 (Int32.ofNat i) g z_C s_F))] [(.int (acc * (10 : Int32)))]))
        refine own_go (fun t_ k_ => XS.iload A4.here hx rfl (hb hby d13_39) rfl k_) ?_
        show own_Go _ _ _ _ (T3.setTop (mkF m 41 #[.val (.ref r0), .val (.int p1), .val (.int (Int32.ofNat hi)), .val (.int acc), .val (.int (Int32.ofNat i)), .val (.int (f14 (Int32.ofNat i) g z_C s_F))] [(.int (f14 (Int32.ofNat i) g z_C s_F)), (.int (acc * (10 : Int32)))]))
        refine own_go (fun t_ k_ => XS.iadd A4.here hx rfl (hb hby d13_41) rfl k_) ?_
        show own_Go _ _ _ _ (T3.setTop (mkF m 42 #[.val (.ref r0), .val (.int p1), .val (.int (Int32.ofNat hi)), .val (.int acc), .val (.int (Int32.ofNat i)), .val (.int (f14 (Int32.ofNat i) g z_C s_F))] [(.int ((acc * (10 : Int32)) + (f14 (Int32.ofNat i) g z_C s_F)))]))
        refine own_go (fun t_ k_ => XS.bipush A4.here hx rfl (hb hby d13_42) k_) ?_
        show own_Go _ _ _ _ (T3.setTop (mkF m 44 #[.val (.ref r0), .val (.int p1), .val (.int (Int32.ofNat hi)), .val (.int acc), .val (.int (Int32.ofNat i)), .val (.int (f14 (Int32.ofNat i) g z_C s_F))] [(.int (48 : Int32)), (.int ((acc * (10 : Int32)) + (f14 (Int32.ofNat i) g z_C s_F)))]))
        refine own_go (fun t_ k_ => XS.isub A4.here hx rfl (hb hby d13_44) rfl k_) ?_
        show own_Go _ _ _ _ (T3.setTop (mkF m 45 #[.val (.ref r0), .val (.int p1), .val (.int (Int32.ofNat hi)), .val (.int acc), .val (.int (Int32.ofNat i)), .val (.int (f14 (Int32.ofNat i) g z_C s_F))] [(.int (((acc * (10 : Int32)) + (f14 (Int32.ofNat i) g z_C s_F)) - (48 : Int32)))]))
        refine own_go (fun t_ k_ => XS.istoreN A4.here hx rfl (hb hby d13_45) rfl (l' := #[.val (.ref r0), .val (.int p1), .val (.int (Int32.ofNat hi)), .val (.int (((acc * (10 : Int32)) + (f14 (Int32.ofNat i) g z_C s_F)) - (48 : Int32))), .val (.int (Int32.ofNat i)), .val (.int (f14 (Int32.ofNat i) g z_C s_F))]) rfl k_) ?_
        show own_Go _ _ _ _ (T3.setTop (mkF m 46 #[.val (.ref r0), .val (.int p1), .val (.int (Int32.ofNat hi)), .val (.int (((acc * (10 : Int32)) + (f14 (Int32.ofNat i) g z_C s_F)) - (48 : Int32))), .val (.int (Int32.ofNat i)), .val (.int (f14 (Int32.ofNat i) g z_C s_F))] []))
        refine own_go (fun t_ k_ => XS.iinc A4.here hx rfl (hb hby d13_46) rfl (l' := #[.val (.ref r0), .val (.int p1), .val (.int (Int32.ofNat hi)), .val (.int (((acc * (10 : Int32)) + (f14 (Int32.ofNat i) g z_C s_F)) - (48 : Int32))), .val (.int ((Int32.ofNat i) + (1 : Int32))), .val (.int (f14 (Int32.ofNat i) g z_C s_F))]) rfl k_) ?_
        show own_Go _ _ _ _ (T3.setTop (mkF m 49 #[.val (.ref r0), .val (.int p1), .val (.int (Int32.ofNat hi)), .val (.int (((acc * (10 : Int32)) + (f14 (Int32.ofNat i) g z_C s_F)) - (48 : Int32))), .val (.int ((Int32.ofNat i) + (1 : Int32))), .val (.int (f14 (Int32.ofNat i) g z_C s_F))] []))
        refine own_go (fun t_ k_ => XS.goto A4.here hx rfl (pc0 := 49) (pc' := 5) rfl (hb hby d13_49) (by decide) (by decide) k_) ?_
        show own_Go _ _ _ _ (T3.setTop (mkF m 5 #[.val (.ref r0), .val (.int p1), .val (.int (Int32.ofNat hi)), .val (.int (((acc * (10 : Int32)) + (f14 (Int32.ofNat i) g z_C s_F)) - (48 : Int32))), .val (.int ((Int32.ofNat i) + (1 : Int32))), .val (.int (f14 (Int32.ofNat i) g z_C s_F))] []))
        rw [own_parse, if_neg hc8, if_neg hc9]
        rw [own_succ]
        exact ih (i + 1) _ _ _ A4 (One.val rfl) (by omega)
theorem ef_13 (m : MethodId) (r0 : Addr) (y1 : Int32) (y2 : Int32) : entryFrame m #[(.ref r0), (.int y1), (.int y2)] 6 = mkF m 0 #[.val (.ref r0), .val (.int y1), .val (.int y2), .unset, .unset, .unset] [] := by first | (simp [entryFrame, mkF, argsToLocals, Value.category]; done) | rfl
theorem pn_13 : plainName "com/example/vestledger/vestledger/Digits" = true := by first | (simp [plainName, overriddenIn]; done) | decide +kernel
theorem d13_0 : decode prog_2_method_2_code 0 = .ok (.iconst 0, 1) := by decide +kernel
theorem d13_1 : decode prog_2_method_2_code 1 = .ok (.istore_n 3, 1) := by decide +kernel
theorem d13_2 : decode prog_2_method_2_code 2 = .ok (.iload_n 1, 1) := by decide +kernel
theorem d13_3 : decode prog_2_method_2_code 3 = .ok (.istore 4, 2) := by decide +kernel
set_option maxRecDepth 65536 in
set_option maxHeartbeats 40000000 in
theorem rm13 (l : Launch) (Z : State) (a0 : Array Value) (hw : ∀ d ∈ tables_1, d.before a0 Z = true) (n0 : Nat) (lo hi : Nat) (r0 t0 : Addr) (g : Int32 → Int32) (z_C : Int32) (s_F : Value) (h0 : Heap) (E0 : Exa Z h0 r0 "java/lang/String") (Fc : Fld Z h0 r0 "java/lang/String" "coder" "B" (.int (0 : Int32))) (Fv : Fld Z h0 r0 "java/lang/String" "value" "[B" (.ref t0)) (V0 : own_Arr Z h0 t0 .byte (5 : Int32) g) (S_C : Sta Z h0 "java/lang/String" "COMPACT_STRINGS" "Z" (.int z_C)) (hz : ¬ z_C = 0) (S_F : Sta Z h0 "jdk/internal/util/Preconditions" "SIOOBE_FORMATTER" "Ljava/util/function/BiFunction;" s_F) (hr_F : s_F.isRef = true) (hlo : lo ≤ hi) (hhi : hi ≤ 5) :
    own_Met l Z n0 (⟨"com/example/vestledger/vestledger/Digits", "parse", "(Ljava/lang/String;II)I"⟩ : MethodName) prog_2_method_2_code 6 (some .int) ({ frames := 4, cells := 0, slots := 0, locals := 53 } : Room) #[.ref r0, .int (Int32.ofNat lo), .int (Int32.ofNat hi)] h0 (fun v h => v = some (.int (own_parse (fun z => f14 z g z_C s_F) (hi - lo) lo 0)) ∧ h0 = h) := by
  refine own_met (plainFor_of_name pn_13) ?_
  intro p e s m below meth c T0 hx hby hml hown hnm hret hlk hZ A0
  rw [ef_13]
  show own_Go _ _ _ _ (T0.setTop (mkF m 0 #[.val (.ref r0), .val (.int (Int32.ofNat lo)), .val (.int (Int32.ofNat hi)), .unset, .unset, .unset] []))
  refine own_go (fun t_ k_ => XS.iconst A0.here hx rfl (hb hby d13_0) k_) ?_
  show own_Go _ _ _ _ (T0.setTop (mkF m 1 #[.val (.ref r0), .val (.int (Int32.ofNat lo)), .val (.int (Int32.ofNat hi)), .unset, .unset, .unset] [(.int (0 : Int32))]))
  refine own_go (fun t_ k_ => XS.istoreN A0.here hx rfl (hb hby d13_1) rfl (l' := #[.val (.ref r0), .val (.int (Int32.ofNat lo)), .val (.int (Int32.ofNat hi)), .val (.int (0 : Int32)), .unset, .unset]) rfl k_) ?_
  show own_Go _ _ _ _ (T0.setTop (mkF m 2 #[.val (.ref r0), .val (.int (Int32.ofNat lo)), .val (.int (Int32.ofNat hi)), .val (.int (0 : Int32)), .unset, .unset] []))
  refine own_go (fun t_ k_ => XS.iloadN A0.here hx rfl (hb hby d13_2) rfl k_) ?_
  show own_Go _ _ _ _ (T0.setTop (mkF m 3 #[.val (.ref r0), .val (.int (Int32.ofNat lo)), .val (.int (Int32.ofNat hi)), .val (.int (0 : Int32)), .unset, .unset] [(.int (Int32.ofNat lo))]))
  refine own_go (fun t_ k_ => XS.istore A0.here hx rfl (hb hby d13_3) rfl (l' := #[.val (.ref r0), .val (.int (Int32.ofNat lo)), .val (.int (Int32.ofNat hi)), .val (.int (0 : Int32)), .val (.int (Int32.ofNat lo)), .unset]) rfl k_) ?_
  show own_Go _ _ _ _ (T0.setTop (mkF m 5 #[.val (.ref r0), .val (.int (Int32.ofNat lo)), .val (.int (Int32.ofNat hi)), .val (.int (0 : Int32)), .val (.int (Int32.ofNat lo)), .unset] []))
  exact own_lpP hx hby hml hown hret hlk hZ hw r0 t0 g z_C s_F h0 E0 Fc Fv V0 S_C hz S_F hr_F _ hi hhi (hi - lo) lo 0 _ _ A0 One.u (by omega)
theorem own_i2c_id {y : Int32} (h0 : 0 ≤ y.toInt) (h1 : y.toInt ≤ 255) : y.toUInt32.toUInt16.toUInt32.toInt32 = y := by
  have k := c_i2c y
  exact Int32.toInt_inj.mp (by omega)
theorem own_nar_id {y : Int32} (h0 : 0 ≤ y.toInt) (h1 : y.toInt ≤ 255) : nar .char y = y := own_i2c_id h0 h1
theorem own_chv {x : Int32} (h : ¬ x < 0 ∧ ¬ (255 : Int32) < x) : nar .char (nar .char ((x.toInt8.toInt32 &&& (255 : Int32)).toUInt32.toUInt16.toUInt32.toInt32)) = x := by
  have e0 : (0 : Int32).toInt = 0 := rfl
  have e1 : (255 : Int32).toInt = 255 := rfl
  obtain ⟨h0, h1⟩ := h
  rw [Int32.lt_iff_toInt_lt] at h0 h1
  have b := c_i2b x
  have k : (x.toInt8.toInt32 &&& (255 : Int32)).toInt = x.toInt8.toInt32.toInt % 256 := c_mask x.toInt8.toInt32 255 8 (by decide) rfl
  have e : x.toInt8.toInt32 &&& (255 : Int32) = x := Int32.toInt_inj.mp (by omega)
  rw [e, own_i2c_id (y := x) (by omega) (by omega), own_nar_id (y := x) (by omega) (by omega), own_nar_id (y := x) (by omega) (by omega)]
theorem own_parse_congr {F F' : Int32 → Int32} : ∀ (n i : Nat) (acc : Int32), (∀ j, j < i + n → F (Int32.ofNat j) = F' (Int32.ofNat j)) → own_parse F n i acc = own_parse F' n i acc := by
  intro n
  induction n with
  | zero => intro i acc _; rfl
  | succ n ih =>
    intro i acc h
    rw [own_parse, own_parse, h i (by omega), ih (i + 1) _ (fun j hj => h j (by omega))]
theorem own_dr (x : Int32) : ¬ nar .char (f1 x) < 0 ∧ ¬ (255 : Int32) < nar .char (f1 x) := by
  have e0 : (0 : Int32).toInt = 0 := rfl
  have e1 : (255 : Int32).toInt = 255 := rfl
  have e2 : (48 : Int32).toInt = 48 := rfl
  suffices h : 0 ≤ (f1 x).toInt ∧ (f1 x).toInt ≤ 255 by
    rw [own_nar_id h.1 h.2, Int32.lt_iff_toInt_lt, Int32.lt_iff_toInt_lt]
    omega
  unfold f1
  have u := c_iushr x 1 1 (by decide) (by decide)
  generalize (x.toUInt32 >>> ((1 : Int32) &&& 31).toUInt32).toInt32 = y at u ⊢
  split
  · have r := (c_irem y 10 10 rfl).1 (by omega)
    have s := c_iadd 48 (y % 10)
    have s2 := rng32 ((48 : Int32) + y % 10)
    have s3 : ((48 : Int32) + y % 10).toInt = 48 + y.toInt % 10 := by omega
    rw [own_i2c_id (by omega) (by omega), own_nar_id (by omega) (by omega)]
    omega
  · have r := c_and y 255 (by decide)
    rw [own_i2c_id (by omega) (by omega), own_nar_id (by omega) (by omega)]
    omega
theorem own_hp {a b d e q : Int32} (fc : Int32 → Int32) (hfc : fc = (fun i => if i = (4 : Int32) then nar .char (f1 q) else (fun i => if i = (3 : Int32) then nar .char (f1 e) else (fun i => if i = (2 : Int32) then nar .char (f1 d) else (fun i => if i = (1 : Int32) then nar .char (f1 b) else (fun i => if i = (0 : Int32) then nar .char (f1 a) else (fun _ => 0) i) i) i) i) i)) : ∀ k, k < 5 → ¬ fc (Int32.ofNat k) < 0 ∧ ¬ (255 : Int32) < fc (Int32.ofNat k) := by
  intro k hk
  subst hfc
  dsimp only
  by_cases h4 : Int32.ofNat k = 4
  · rw [if_pos h4]; exact own_dr _
  rw [if_neg h4]
  by_cases h3 : Int32.ofNat k = 3
  · rw [if_pos h3]; exact own_dr _
  rw [if_neg h3]
  by_cases h2 : Int32.ofNat k = 2
  · rw [if_pos h2]; exact own_dr _
  rw [if_neg h2]
  by_cases h1 : Int32.ofNat k = 1
  · rw [if_pos h1]; exact own_dr _
  rw [if_neg h1]
  by_cases h0 : Int32.ofNat k = 0
  · rw [if_pos h0]; exact own_dr _
  rw [if_neg h0]
  exact ⟨by decide, by decide⟩
theorem own_from (p : Int32) : ∃ i : Nat, i ≤ 5 ∧ (p &&& (2147483647 : Int32)) % (6 : Int32) = Int32.ofNat i := by
  have h0 : 0 ≤ (p &&& (2147483647 : Int32)).toInt := (c_and p 2147483647 (by decide)).1
  have h1 := (c_irem (p &&& (2147483647 : Int32)) 6 6 rfl).1 h0
  refine ⟨((p &&& (2147483647 : Int32)) % (6 : Int32)).toInt.toNat, by omega, Int32.toInt_inj.mp ?_⟩
  rw [own_nI (by omega)]
  omega
theorem own_mm (a b : Nat) (ha : a ≤ 5) (hb : b ≤ 5) : ∃ lo hi : Nat, lo ≤ hi ∧ hi ≤ 5 ∧ f8 (Int32.ofNat a) (Int32.ofNat b) = Int32.ofNat lo ∧ f9 (Int32.ofNat a) (Int32.ofNat b) = Int32.ofNat hi := by
  by_cases h : a ≤ b
  · refine ⟨a, b, h, hb, ?_, ?_⟩
    · rw [f8, if_neg (fun z => by have := (own_nlt (by omega) (by omega)).mp z; omega)]
    · rw [f9]
      by_cases h2 : a = b
      · subst h2; split <;> rfl
      · rw [if_pos ((own_nlt (by omega) (by omega)).mpr (by omega))]
  · refine ⟨b, a, by omega, ha, ?_, ?_⟩
    · rw [f8, if_pos ((own_nlt (by omega) (by omega)).mpr (by omega))]
    · rw [f9, if_neg (fun z => by have := (own_nlt (by omega) (by omega)).mp z; omega)]
theorem own_le5 (k : Nat) (h : k ≤ 5) : ¬ (5 : Int32) < Int32.ofNat k := fun z => by have := (own_nlt (i := 5) (by decide) (by omega)).mp z; omega
theorem own_dcase (x : Int32) : (f12 x < 0 ∧ (x < 48 ∨ 57 < x)) ∨ (¬ x < 48 ∧ ¬ 57 < x ∧ f12 x = x - 48 ∧ ¬ f12 x < 0 ∧ 0 ≤ (x - 48).toInt ∧ (x - 48).toInt ≤ 9) := by
  by_cases h1 : x < 48
  · exact Or.inl ⟨by rw [f12, if_pos h1]; decide, Or.inl h1⟩
  · by_cases h2 : 57 < x
    · exact Or.inl ⟨by rw [f12, if_neg h1, if_pos h2]; decide, Or.inr h2⟩
    · have e : f12 x = x - 48 := by rw [f12, if_neg h1, if_neg h2]
      have g1 := h1
      have g2 := h2
      rw [Int32.lt_iff_toInt_lt] at g1 g2
      have e1 : (48 : Int32).toInt = 48 := rfl
      have e2 : (57 : Int32).toInt = 57 := rfl
      have e3 : (0 : Int32).toInt = 0 := rfl
      have s := c_isub x 48
      have s2 := rng32 (x - 48)
      refine Or.inr ⟨h1, h2, e, ?_, by omega, by omega⟩
      rw [e, Int32.lt_iff_toInt_lt]
      omega
theorem own_tpos {y : Int32} (h0 : 0 ≤ y.toInt) (h1 : y.toInt ≤ 9) (p : Int32) (k : Int) (hk : p.toInt = k) (hk0 : 0 ≤ k) (hk1 : k ≤ 10000) : ¬ y * p < 0 := by
  have s := c_imul y p
  have s2 := rng32 (y * p)
  rw [hk] at s
  have m1 : 0 ≤ y.toInt * k := Int.mul_nonneg h0 hk0
  have m2 : y.toInt * k ≤ 9 * 10000 := Int.le_trans (Int.mul_le_mul_of_nonneg_right h1 hk0) (Int.mul_le_mul_of_nonneg_left hk1 (by decide))
  rw [Int32.lt_iff_toInt_lt]
  have e3 : (0 : Int32).toInt = 0 := rfl
  omega
theorem own_nd {A B : Prop} [Decidable A] [Decidable B] {z : Int32} (h : A ∨ B) : (if A then (-1 : Int32) else if B then -1 else z) = -1 := by
  by_cases a : A
  · rw [if_pos a]
  · rw [if_neg a, if_pos (h.resolve_left a)]
theorem own_c_0_0 (fc : Int32 → Int32) : own_parse fc 0 0 0 = f10 (0 : Int32) (0 : Int32) fc := by
  have e : own_parse fc 0 0 0 = (0 : Int32) := rfl
  rw [e]
  have u0 : f11 (0 : Int32) (0 : Int32) (0 : Int32) fc = 0 := by rw [f11, if_neg (by decide), if_neg (by decide)]
  have u1 : f11 (1 : Int32) (0 : Int32) (0 : Int32) fc = 0 := by rw [f11, if_neg (by decide), if_neg (by decide)]
  have u2 : f11 (2 : Int32) (0 : Int32) (0 : Int32) fc = 0 := by rw [f11, if_neg (by decide), if_neg (by decide)]
  have u3 : f11 (3 : Int32) (0 : Int32) (0 : Int32) fc = 0 := by rw [f11, if_neg (by decide), if_neg (by decide)]
  have u4 : f11 (4 : Int32) (0 : Int32) (0 : Int32) fc = 0 := by rw [f11, if_neg (by decide), if_neg (by decide)]
  rw [f10, if_neg (by rw [u0]; decide), if_neg (by rw [u1]; decide), if_neg (by rw [u2]; decide), if_neg (by rw [u3]; decide), if_neg (by rw [u4]; decide), u0, u1, u2, u3, u4]
  try grind
theorem own_c_0_1 (fc : Int32 → Int32) : own_parse fc 1 0 0 = f10 (0 : Int32) (1 : Int32) fc := by
  have e : own_parse fc 1 0 0 = (if fc (0 : Int32) < 48 then (-1 : Int32) else if 57 < fc (0 : Int32) then -1 else ((0 : Int32) * 10 + fc (0 : Int32) - 48)) := rfl
  rw [e]
  have u1 : f11 (1 : Int32) (0 : Int32) (1 : Int32) fc = 0 := by rw [f11, if_neg (by decide), if_neg (by decide)]
  have u2 : f11 (2 : Int32) (0 : Int32) (1 : Int32) fc = 0 := by rw [f11, if_neg (by decide), if_neg (by decide)]
  have u3 : f11 (3 : Int32) (0 : Int32) (1 : Int32) fc = 0 := by rw [f11, if_neg (by decide), if_neg (by decide)]
  have u4 : f11 (4 : Int32) (0 : Int32) (1 : Int32) fc = 0 := by rw [f11, if_neg (by decide), if_neg (by decide)]
  rcases own_dcase (fc (0 : Int32)) with ⟨a, nd⟩ | ⟨b0, c0, d0, z0, l0, h0⟩
  · have w : f11 (0 : Int32) (0 : Int32) (1 : Int32) fc = -1 := by rw [f11, if_neg (by decide), if_pos (by decide), if_pos a]
    rw [own_nd nd, f10, if_pos (by rw [w]; decide)]
  have u0 : f11 (0 : Int32) (0 : Int32) (1 : Int32) fc = (fc (0 : Int32) - 48) * (1 : Int32) := by rw [f11, if_neg (by decide), if_pos (by decide), if_neg z0, d0]; rfl
  have v0 : ¬ (fc (0 : Int32) - 48) * (1 : Int32) < 0 := own_tpos l0 h0 (1 : Int32) 1 rfl (by decide) (by decide)
  rw [if_neg b0, if_neg c0, f10, if_neg (by rw [u0]; exact v0), if_neg (by rw [u1]; decide), if_neg (by rw [u2]; decide), if_neg (by rw [u3]; decide), if_neg (by rw [u4]; decide), u0, u1, u2, u3, u4]
  try grind
theorem own_c_1_1 (fc : Int32 → Int32) : own_parse fc 0 1 0 = f10 (1 : Int32) (1 : Int32) fc := by
  have e : own_parse fc 0 1 0 = (0 : Int32) := rfl
  rw [e]
  have u0 : f11 (0 : Int32) (1 : Int32) (1 : Int32) fc = 0 := by rw [f11, if_pos (by decide)]
  have u1 : f11 (1 : Int32) (1 : Int32) (1 : Int32) fc = 0 := by rw [f11, if_neg (by decide), if_neg (by decide)]
  have u2 : f11 (2 : Int32) (1 : Int32) (1 : Int32) fc = 0 := by rw [f11, if_neg (by decide), if_neg (by decide)]
  have u3 : f11 (3 : Int32) (1 : Int32) (1 : Int32) fc = 0 := by rw [f11, if_neg (by decide), if_neg (by decide)]
  have u4 : f11 (4 : Int32) (1 : Int32) (1 : Int32) fc = 0 := by rw [f11, if_neg (by decide), if_neg (by decide)]
  rw [f10, if_neg (by rw [u0]; decide), if_neg (by rw [u1]; decide), if_neg (by rw [u2]; decide), if_neg (by rw [u3]; decide), if_neg (by rw [u4]; decide), u0, u1, u2, u3, u4]
  try grind
theorem own_c_0_2 (fc : Int32 → Int32) : own_parse fc 2 0 0 = f10 (0 : Int32) (2 : Int32) fc := by
  have e : own_parse fc 2 0 0 = (if fc (0 : Int32) < 48 then (-1 : Int32) else if 57 < fc (0 : Int32) then -1 else (if fc (1 : Int32) < 48 then (-1 : Int32) else if 57 < fc (1 : Int32) then -1 else (((0 : Int32) * 10 + fc (0 : Int32) - 48) * 10 + fc (1 : Int32) - 48))) := rfl
  rw [e]
  have u2 : f11 (2 : Int32) (0 : Int32) (2 : Int32) fc = 0 := by rw [f11, if_neg (by decide), if_neg (by decide)]
  have u3 : f11 (3 : Int32) (0 : Int32) (2 : Int32) fc = 0 := by rw [f11, if_neg (by decide), if_neg (by decide)]
  have u4 : f11 (4 : Int32) (0 : Int32) (2 : Int32) fc = 0 := by rw [f11, if_neg (by decide), if_neg (by decide)]
  rcases own_dcase (fc (0 : Int32)) with ⟨a, nd⟩ | ⟨b0, c0, d0, z0, l0, h0⟩
  · have w : f11 (0 : Int32) (0 : Int32) (2 : Int32) fc = -1 := by rw [f11, if_neg (by decide), if_pos (by decide), if_pos a]
    rw [own_nd nd, f10, if_pos (by rw [w]; decide)]
  have u0 : f11 (0 : Int32) (0 : Int32) (2 : Int32) fc = (fc (0 : Int32) - 48) * (10 : Int32) := by rw [f11, if_neg (by decide), if_pos (by decide), if_neg z0, d0]; rfl
  have v0 : ¬ (fc (0 : Int32) - 48) * (10 : Int32) < 0 := own_tpos l0 h0 (10 : Int32) 10 rfl (by decide) (by decide)
  rcases own_dcase (fc (1 : Int32)) with ⟨a, nd⟩ | ⟨b1, c1, d1, z1, l1, h1⟩
  · have w : f11 (1 : Int32) (0 : Int32) (2 : Int32) fc = -1 := by rw [f11, if_neg (by decide), if_pos (by decide), if_pos a]
    rw [if_neg b0, if_neg c0, own_nd nd, f10, if_neg (by rw [u0]; exact v0), if_pos (by rw [w]; decide)]
  have u1 : f11 (1 : Int32) (0 : Int32) (2 : Int32) fc = (fc (1 : Int32) - 48) * (1 : Int32) := by rw [f11, if_neg (by decide), if_pos (by decide), if_neg z1, d1]; rfl
  have v1 : ¬ (fc (1 : Int32) - 48) * (1 : Int32) < 0 := own_tpos l1 h1 (1 : Int32) 1 rfl (by decide) (by decide)
  rw [if_neg b0, if_neg c0, if_neg b1, if_neg c1, f10, if_neg (by rw [u0]; exact v0), if_neg (by rw [u1]; exact v1), if_neg (by rw [u2]; decide), if_neg (by rw [u3]; decide), if_neg (by rw [u4]; decide), u0, u1, u2, u3, u4]
  try grind
theorem own_c_1_2 (fc : Int32 → Int32) : own_parse fc 1 1 0 = f10 (1 : Int32) (2 : Int32) fc := by
  have e : own_parse fc 1 1 0 = (if fc (1 : Int32) < 48 then (-1 : Int32) else if 57 < fc (1 : Int32) then -1 else ((0 : Int32) * 10 + fc (1 : Int32) - 48)) := rfl
  rw [e]
  have u0 : f11 (0 : Int32) (1 : Int32) (2 : Int32) fc = 0 := by rw [f11, if_pos (by decide)]
  have u2 : f11 (2 : Int32) (1 : Int32) (2 : Int32) fc = 0 := by rw [f11, if_neg (by decide), if_neg (by decide)]
  have u3 : f11 (3 : Int32) (1 : Int32) (2 : Int32) fc = 0 := by rw [f11, if_neg (by decide), if_neg (by decide)]
  have u4 : f11 (4 : Int32) (1 : Int32) (2 : Int32) fc = 0 := by rw [f11, if_neg (by decide), if_neg (by decide)]
  rcases own_dcase (fc (1 : Int32)) with ⟨a, nd⟩ | ⟨b1, c1, d1, z1, l1, h1⟩
  · have w : f11 (1 : Int32) (1 : Int32) (2 : Int32) fc = -1 := by rw [f11, if_neg (by decide), if_pos (by decide), if_pos a]
    rw [own_nd nd, f10, if_neg (by rw [u0]; decide), if_pos (by rw [w]; decide)]
  have u1 : f11 (1 : Int32) (1 : Int32) (2 : Int32) fc = (fc (1 : Int32) - 48) * (1 : Int32) := by rw [f11, if_neg (by decide), if_pos (by decide), if_neg z1, d1]; rfl
  have v1 : ¬ (fc (1 : Int32) - 48) * (1 : Int32) < 0 := own_tpos l1 h1 (1 : Int32) 1 rfl (by decide) (by decide)
  rw [if_neg b1, if_neg c1, f10, if_neg (by rw [u0]; decide), if_neg (by rw [u1]; exact v1), if_neg (by rw [u2]; decide), if_neg (by rw [u3]; decide), if_neg (by rw [u4]; decide), u0, u1, u2, u3, u4]
  try grind
theorem own_c_2_2 (fc : Int32 → Int32) : own_parse fc 0 2 0 = f10 (2 : Int32) (2 : Int32) fc := by
  have e : own_parse fc 0 2 0 = (0 : Int32) := rfl
  rw [e]
  have u0 : f11 (0 : Int32) (2 : Int32) (2 : Int32) fc = 0 := by rw [f11, if_pos (by decide)]
  have u1 : f11 (1 : Int32) (2 : Int32) (2 : Int32) fc = 0 := by rw [f11, if_pos (by decide)]
  have u2 : f11 (2 : Int32) (2 : Int32) (2 : Int32) fc = 0 := by rw [f11, if_neg (by decide), if_neg (by decide)]
  have u3 : f11 (3 : Int32) (2 : Int32) (2 : Int32) fc = 0 := by rw [f11, if_neg (by decide), if_neg (by decide)]
  have u4 : f11 (4 : Int32) (2 : Int32) (2 : Int32) fc = 0 := by rw [f11, if_neg (by decide), if_neg (by decide)]
  rw [f10, if_neg (by rw [u0]; decide), if_neg (by rw [u1]; decide), if_neg (by rw [u2]; decide), if_neg (by rw [u3]; decide), if_neg (by rw [u4]; decide), u0, u1, u2, u3, u4]
  try grind
theorem own_c_0_3 (fc : Int32 → Int32) : own_parse fc 3 0 0 = f10 (0 : Int32) (3 : Int32) fc := by
  have e : own_parse fc 3 0 0 = (if fc (0 : Int32) < 48 then (-1 : Int32) else if 57 < fc (0 : Int32) then -1 else (if fc (1 : Int32) < 48 then (-1 : Int32) else if 57 < fc (1 : Int32) then -1 else (if fc (2 : Int32) < 48 then (-1 : Int32) else if 57 < fc (2 : Int32) then -1 else ((((0 : Int32) * 10 + fc (0 : Int32) - 48) * 10 + fc (1 : Int32) - 48) * 10 + fc (2 : Int32) - 48)))) := rfl
  rw [e]
  have u3 : f11 (3 : Int32) (0 : Int32) (3 : Int32) fc = 0 := by rw [f11, if_neg (by decide), if_neg (by decide)]
  have u4 : f11 (4 : Int32) (0 : Int32) (3 : Int32) fc = 0 := by rw [f11, if_neg (by decide), if_neg (by decide)]
  rcases own_dcase (fc (0 : Int32)) with ⟨a, nd⟩ | ⟨b0, c0, d0, z0, l0, h0⟩
  · have w : f11 (0 : Int32) (0 : Int32) (3 : Int32) fc = -1 := by rw [f11, if_neg (by decide), if_pos (by decide), if_pos a]
    rw [own_nd nd, f10, if_pos (by rw [w]; decide)]
  have u0 : f11 (0 : Int32) (0 : Int32) (3 : Int32) fc = (fc (0 : Int32) - 48) * (100 : Int32) := by rw [f11, if_neg (by decide), if_pos (by decide), if_neg z0, d0]; rfl
  have v0 : ¬ (fc (0 : Int32) - 48) * (100 : Int32) < 0 := own_tpos l0 h0 (100 : Int32) 100 rfl (by decide) (by decide)
  rcases own_dcase (fc (1 : Int32)) with ⟨a, nd⟩ | ⟨b1, c1, d1, z1, l1, h1⟩
  · have w : f11 (1 : Int32) (0 : Int32) (3 : Int32) fc = -1 := by rw [f11, if_neg (by decide), if_pos (by decide), if_pos a]
    rw [if_neg b0, if_neg c0, own_nd nd, f10, if_neg (by rw [u0]; exact v0), if_pos (by rw [w]; decide)]
  have u1 : f11 (1 : Int32) (0 : Int32) (3 : Int32) fc = (fc (1 : Int32) - 48) * (10 : Int32) := by rw [f11, if_neg (by decide), if_pos (by decide), if_neg z1, d1]; rfl
  have v1 : ¬ (fc (1 : Int32) - 48) * (10 : Int32) < 0 := own_tpos l1 h1 (10 : Int32) 10 rfl (by decide) (by decide)
  rcases own_dcase (fc (2 : Int32)) with ⟨a, nd⟩ | ⟨b2, c2, d2, z2, l2, h2⟩
  · have w : f11 (2 : Int32) (0 : Int32) (3 : Int32) fc = -1 := by rw [f11, if_neg (by decide), if_pos (by decide), if_pos a]
    rw [if_neg b0, if_neg c0, if_neg b1, if_neg c1, own_nd nd, f10, if_neg (by rw [u0]; exact v0), if_neg (by rw [u1]; exact v1), if_pos (by rw [w]; decide)]
  have u2 : f11 (2 : Int32) (0 : Int32) (3 : Int32) fc = (fc (2 : Int32) - 48) * (1 : Int32) := by rw [f11, if_neg (by decide), if_pos (by decide), if_neg z2, d2]; rfl
  have v2 : ¬ (fc (2 : Int32) - 48) * (1 : Int32) < 0 := own_tpos l2 h2 (1 : Int32) 1 rfl (by decide) (by decide)
  rw [if_neg b0, if_neg c0, if_neg b1, if_neg c1, if_neg b2, if_neg c2, f10, if_neg (by rw [u0]; exact v0), if_neg (by rw [u1]; exact v1), if_neg (by rw [u2]; exact v2), if_neg (by rw [u3]; decide), if_neg (by rw [u4]; decide), u0, u1, u2, u3, u4]
  try grind
theorem own_c_1_3 (fc : Int32 → Int32) : own_parse fc 2 1 0 = f10 (1 : Int32) (3 : Int32) fc := by
  have e : own_parse fc 2 1 0 = (if fc (1 : Int32) < 48 then (-1 : Int32) else if 57 < fc (1 : Int32) then -1 else (if fc (2 : Int32) < 48 then (-1 : Int32) else if 57 < fc (2 : Int32) then -1 else (((0 : Int32) * 10 + fc (1 : Int32) - 48) * 10 + fc (2 : Int32) - 48))) := rfl
  rw [e]
  have u0 : f11 (0 : Int32) (1 : Int32) (3 : Int32) fc = 0 := by rw [f11, if_pos (by decide)]
  have u3 : f11 (3 : Int32) (1 : Int32) (3 : Int32) fc = 0 := by rw [f11, if_neg (by decide), if_neg (by decide)]
  have u4 : f11 (4 : Int32) (1 : Int32) (3 : Int32) fc = 0 := by rw [f11, if_neg (by decide), if_neg (by decide)]
  rcases own_dcase (fc (1 : Int32)) with ⟨a, nd⟩ | ⟨b1, c1, d1, z1, l1, h1⟩
  · have w : f11 (1 : Int32) (1 : Int32) (3 : Int32) fc = -1 := by rw [f11, if_neg (by decide), if_pos (by decide), if_pos a]
    rw [own_nd nd, f10, if_neg (by rw [u0]; decide), if_pos (by rw [w]; decide)]
  have u1 : f11 (1 : Int32) (1 : Int32) (3 : Int32) fc = (fc (1 : Int32) - 48) * (10 : Int32) := by rw [f11, if_neg (by decide), if_pos (by decide), if_neg z1, d1]; rfl
  have v1 : ¬ (fc (1 : Int32) - 48) * (10 : Int32) < 0 := own_tpos l1 h1 (10 : Int32) 10 rfl (by decide) (by decide)
  rcases own_dcase (fc (2 : Int32)) with ⟨a, nd⟩ | ⟨b2, c2, d2, z2, l2, h2⟩
  · have w : f11 (2 : Int32) (1 : Int32) (3 : Int32) fc = -1 := by rw [f11, if_neg (by decide), if_pos (by decide), if_pos a]
    rw [if_neg b1, if_neg c1, own_nd nd, f10, if_neg (by rw [u0]; decide), if_neg (by rw [u1]; exact v1), if_pos (by rw [w]; decide)]
  have u2 : f11 (2 : Int32) (1 : Int32) (3 : Int32) fc = (fc (2 : Int32) - 48) * (1 : Int32) := by rw [f11, if_neg (by decide), if_pos (by decide), if_neg z2, d2]; rfl
  have v2 : ¬ (fc (2 : Int32) - 48) * (1 : Int32) < 0 := own_tpos l2 h2 (1 : Int32) 1 rfl (by decide) (by decide)
  rw [if_neg b1, if_neg c1, if_neg b2, if_neg c2, f10, if_neg (by rw [u0]; decide), if_neg (by rw [u1]; exact v1), if_neg (by rw [u2]; exact v2), if_neg (by rw [u3]; decide), if_neg (by rw [u4]; decide), u0, u1, u2, u3, u4]
  try grind
theorem own_c_2_3 (fc : Int32 → Int32) : own_parse fc 1 2 0 = f10 (2 : Int32) (3 : Int32) fc := by
  have e : own_parse fc 1 2 0 = (if fc (2 : Int32) < 48 then (-1 : Int32) else if 57 < fc (2 : Int32) then -1 else ((0 : Int32) * 10 + fc (2 : Int32) - 48)) := rfl
  rw [e]
  have u0 : f11 (0 : Int32) (2 : Int32) (3 : Int32) fc = 0 := by rw [f11, if_pos (by decide)]
  have u1 : f11 (1 : Int32) (2 : Int32) (3 : Int32) fc = 0 := by rw [f11, if_pos (by decide)]
  have u3 : f11 (3 : Int32) (2 : Int32) (3 : Int32) fc = 0 := by rw [f11, if_neg (by decide), if_neg (by decide)]
  have u4 : f11 (4 : Int32) (2 : Int32) (3 : Int32) fc = 0 := by rw [f11, if_neg (by decide), if_neg (by decide)]
  rcases own_dcase (fc (2 : Int32)) with ⟨a, nd⟩ | ⟨b2, c2, d2, z2, l2, h2⟩
  · have w : f11 (2 : Int32) (2 : Int32) (3 : Int32) fc = -1 := by rw [f11, if_neg (by decide), if_pos (by decide), if_pos a]
    rw [own_nd nd, f10, if_neg (by rw [u0]; decide), if_neg (by rw [u1]; decide), if_pos (by rw [w]; decide)]
  have u2 : f11 (2 : Int32) (2 : Int32) (3 : Int32) fc = (fc (2 : Int32) - 48) * (1 : Int32) := by rw [f11, if_neg (by decide), if_pos (by decide), if_neg z2, d2]; rfl
  have v2 : ¬ (fc (2 : Int32) - 48) * (1 : Int32) < 0 := own_tpos l2 h2 (1 : Int32) 1 rfl (by decide) (by decide)
  rw [if_neg b2, if_neg c2, f10, if_neg (by rw [u0]; decide), if_neg (by rw [u1]; decide), if_neg (by rw [u2]; exact v2), if_neg (by rw [u3]; decide), if_neg (by rw [u4]; decide), u0, u1, u2, u3, u4]
  try grind
theorem own_c_3_3 (fc : Int32 → Int32) : own_parse fc 0 3 0 = f10 (3 : Int32) (3 : Int32) fc := by
  have e : own_parse fc 0 3 0 = (0 : Int32) := rfl
  rw [e]
  have u0 : f11 (0 : Int32) (3 : Int32) (3 : Int32) fc = 0 := by rw [f11, if_pos (by decide)]
  have u1 : f11 (1 : Int32) (3 : Int32) (3 : Int32) fc = 0 := by rw [f11, if_pos (by decide)]
  have u2 : f11 (2 : Int32) (3 : Int32) (3 : Int32) fc = 0 := by rw [f11, if_pos (by decide)]
  have u3 : f11 (3 : Int32) (3 : Int32) (3 : Int32) fc = 0 := by rw [f11, if_neg (by decide), if_neg (by decide)]
  have u4 : f11 (4 : Int32) (3 : Int32) (3 : Int32) fc = 0 := by rw [f11, if_neg (by decide), if_neg (by decide)]
  rw [f10, if_neg (by rw [u0]; decide), if_neg (by rw [u1]; decide), if_neg (by rw [u2]; decide), if_neg (by rw [u3]; decide), if_neg (by rw [u4]; decide), u0, u1, u2, u3, u4]
  try grind
theorem own_c_0_4 (fc : Int32 → Int32) : own_parse fc 4 0 0 = f10 (0 : Int32) (4 : Int32) fc := by
  have e : own_parse fc 4 0 0 = (if fc (0 : Int32) < 48 then (-1 : Int32) else if 57 < fc (0 : Int32) then -1 else (if fc (1 : Int32) < 48 then (-1 : Int32) else if 57 < fc (1 : Int32) then -1 else (if fc (2 : Int32) < 48 then (-1 : Int32) else if 57 < fc (2 : Int32) then -1 else (if fc (3 : Int32) < 48 then (-1 : Int32) else if 57 < fc (3 : Int32) then -1 else (((((0 : Int32) * 10 + fc (0 : Int32) - 48) * 10 + fc (1 : Int32) - 48) * 10 + fc (2 : Int32) - 48) * 10 + fc (3 : Int32) - 48))))) := rfl
  rw [e]
  have u4 : f11 (4 : Int32) (0 : Int32) (4 : Int32) fc = 0 := by rw [f11, if_neg (by decide), if_neg (by decide)]
  rcases own_dcase (fc (0 : Int32)) with ⟨a, nd⟩ | ⟨b0, c0, d0, z0, l0, h0⟩
  · have w : f11 (0 : Int32) (0 : Int32) (4 : Int32) fc = -1 := by rw [f11, if_neg (by decide), if_pos (by decide), if_pos a]
    rw [own_nd nd, f10, if_pos (by rw [w]; decide)]
  have u0 : f11 (0 : Int32) (0 : Int32) (4 : Int32) fc = (fc (0 : Int32) - 48) * (1000 : Int32) := by rw [f11, if_neg (by decide), if_pos (by decide), if_neg z0, d0]; rfl
  have v0 : ¬ (fc (0 : Int32) - 48) * (1000 : Int32) < 0 := own_tpos l0 h0 (1000 : Int32) 1000 rfl (by decide) (by decide)
  rcases own_dcase (fc (1 : Int32)) with ⟨a, nd⟩ | ⟨b1, c1, d1, z1, l1, h1⟩
  · have w : f11 (1 : Int32) (0 : Int32) (4 : Int32) fc = -1 := by rw [f11, if_neg (by decide), if_pos (by decide), if_pos a]
    rw [if_neg b0, if_neg c0, own_nd nd, f10, if_neg (by rw [u0]; exact v0), if_pos (by rw [w]; decide)]
  have u1 : f11 (1 : Int32) (0 : Int32) (4 : Int32) fc = (fc (1 : Int32) - 48) * (100 : Int32) := by rw [f11, if_neg (by decide), if_pos (by decide), if_neg z1, d1]; rfl
  have v1 : ¬ (fc (1 : Int32) - 48) * (100 : Int32) < 0 := own_tpos l1 h1 (100 : Int32) 100 rfl (by decide) (by decide)
  rcases own_dcase (fc (2 : Int32)) with ⟨a, nd⟩ | ⟨b2, c2, d2, z2, l2, h2⟩
  · have w : f11 (2 : Int32) (0 : Int32) (4 : Int32) fc = -1 := by rw [f11, if_neg (by decide), if_pos (by decide), if_pos a]
    rw [if_neg b0, if_neg c0, if_neg b1, if_neg c1, own_nd nd, f10, if_neg (by rw [u0]; exact v0), if_neg (by rw [u1]; exact v1), if_pos (by rw [w]; decide)]
  have u2 : f11 (2 : Int32) (0 : Int32) (4 : Int32) fc = (fc (2 : Int32) - 48) * (10 : Int32) := by rw [f11, if_neg (by decide), if_pos (by decide), if_neg z2, d2]; rfl
  have v2 : ¬ (fc (2 : Int32) - 48) * (10 : Int32) < 0 := own_tpos l2 h2 (10 : Int32) 10 rfl (by decide) (by decide)
  rcases own_dcase (fc (3 : Int32)) with ⟨a, nd⟩ | ⟨b3, c3, d3, z3, l3, h3⟩
  · have w : f11 (3 : Int32) (0 : Int32) (4 : Int32) fc = -1 := by rw [f11, if_neg (by decide), if_pos (by decide), if_pos a]
    rw [if_neg b0, if_neg c0, if_neg b1, if_neg c1, if_neg b2, if_neg c2, own_nd nd, f10, if_neg (by rw [u0]; exact v0), if_neg (by rw [u1]; exact v1), if_neg (by rw [u2]; exact v2), if_pos (by rw [w]; decide)]
  have u3 : f11 (3 : Int32) (0 : Int32) (4 : Int32) fc = (fc (3 : Int32) - 48) * (1 : Int32) := by rw [f11, if_neg (by decide), if_pos (by decide), if_neg z3, d3]; rfl
  have v3 : ¬ (fc (3 : Int32) - 48) * (1 : Int32) < 0 := own_tpos l3 h3 (1 : Int32) 1 rfl (by decide) (by decide)
  rw [if_neg b0, if_neg c0, if_neg b1, if_neg c1, if_neg b2, if_neg c2, if_neg b3, if_neg c3, f10, if_neg (by rw [u0]; exact v0), if_neg (by rw [u1]; exact v1), if_neg (by rw [u2]; exact v2), if_neg (by rw [u3]; exact v3), if_neg (by rw [u4]; decide), u0, u1, u2, u3, u4]
  try grind
theorem own_c_1_4 (fc : Int32 → Int32) : own_parse fc 3 1 0 = f10 (1 : Int32) (4 : Int32) fc := by
  have e : own_parse fc 3 1 0 = (if fc (1 : Int32) < 48 then (-1 : Int32) else if 57 < fc (1 : Int32) then -1 else (if fc (2 : Int32) < 48 then (-1 : Int32) else if 57 < fc (2 : Int32) then -1 else (if fc (3 : Int32) < 48 then (-1 : Int32) else if 57 < fc (3 : Int32) then -1 else ((((0 : Int32) * 10 + fc (1 : Int32) - 48) * 10 + fc (2 : Int32) - 48) * 10 + fc (3 : Int32) - 48)))) := rfl
  rw [e]
  have u0 : f11 (0 : Int32) (1 : Int32) (4 : Int32) fc = 0 := by rw [f11, if_pos (by decide)]
  have u4 : f11 (4 : Int32) (1 : Int32) (4 : Int32) fc = 0 := by rw [f11, if_neg (by decide), if_neg (by decide)]
  rcases own_dcase (fc (1 : Int32)) with ⟨a, nd⟩ | ⟨b1, c1, d1, z1, l1, h1⟩
  · have w : f11 (1 : Int32) (1 : Int32) (4 : Int32) fc = -1 := by rw [f11, if_neg (by decide), if_pos (by decide), if_pos a]
    rw [own_nd nd, f10, if_neg (by rw [u0]; decide), if_pos (by rw [w]; decide)]
  have u1 : f11 (1 : Int32) (1 : Int32) (4 : Int32) fc = (fc (1 : Int32) - 48) * (100 : Int32) := by rw [f11, if_neg (by decide), if_pos (by decide), if_neg z1, d1]; rfl
  have v1 : ¬ (fc (1 : Int32) - 48) * (100 : Int32) < 0 := own_tpos l1 h1 (100 : Int32) 100 rfl (by decide) (by decide)
  rcases own_dcase (fc (2 : Int32)) with ⟨a, nd⟩ | ⟨b2, c2, d2, z2, l2, h2⟩
  · have w : f11 (2 : Int32) (1 : Int32) (4 : Int32) fc = -1 := by rw [f11, if_neg (by decide), if_pos (by decide), if_pos a]
    rw [if_neg b1, if_neg c1, own_nd nd, f10, if_neg (by rw [u0]; decide), if_neg (by rw [u1]; exact v1), if_pos (by rw [w]; decide)]
  have u2 : f11 (2 : Int32) (1 : Int32) (4 : Int32) fc = (fc (2 : Int32) - 48) * (10 : Int32) := by rw [f11, if_neg (by decide), if_pos (by decide), if_neg z2, d2]; rfl
  have v2 : ¬ (fc (2 : Int32) - 48) * (10 : Int32) < 0 := own_tpos l2 h2 (10 : Int32) 10 rfl (by decide) (by decide)
  rcases own_dcase (fc (3 : Int32)) with ⟨a, nd⟩ | ⟨b3, c3, d3, z3, l3, h3⟩
  · have w : f11 (3 : Int32) (1 : Int32) (4 : Int32) fc = -1 := by rw [f11, if_neg (by decide), if_pos (by decide), if_pos a]
    rw [if_neg b1, if_neg c1, if_neg b2, if_neg c2, own_nd nd, f10, if_neg (by rw [u0]; decide), if_neg (by rw [u1]; exact v1), if_neg (by rw [u2]; exact v2), if_pos (by rw [w]; decide)]
  have u3 : f11 (3 : Int32) (1 : Int32) (4 : Int32) fc = (fc (3 : Int32) - 48) * (1 : Int32) := by rw [f11, if_neg (by decide), if_pos (by decide), if_neg z3, d3]; rfl
  have v3 : ¬ (fc (3 : Int32) - 48) * (1 : Int32) < 0 := own_tpos l3 h3 (1 : Int32) 1 rfl (by decide) (by decide)
  rw [if_neg b1, if_neg c1, if_neg b2, if_neg c2, if_neg b3, if_neg c3, f10, if_neg (by rw [u0]; decide), if_neg (by rw [u1]; exact v1), if_neg (by rw [u2]; exact v2), if_neg (by rw [u3]; exact v3), if_neg (by rw [u4]; decide), u0, u1, u2, u3, u4]
  try grind
theorem own_c_2_4 (fc : Int32 → Int32) : own_parse fc 2 2 0 = f10 (2 : Int32) (4 : Int32) fc := by
  have e : own_parse fc 2 2 0 = (if fc (2 : Int32) < 48 then (-1 : Int32) else if 57 < fc (2 : Int32) then -1 else (if fc (3 : Int32) < 48 then (-1 : Int32) else if 57 < fc (3 : Int32) then -1 else (((0 : Int32) * 10 + fc (2 : Int32) - 48) * 10 + fc (3 : Int32) - 48))) := rfl
  rw [e]
  have u0 : f11 (0 : Int32) (2 : Int32) (4 : Int32) fc = 0 := by rw [f11, if_pos (by decide)]
  have u1 : f11 (1 : Int32) (2 : Int32) (4 : Int32) fc = 0 := by rw [f11, if_pos (by decide)]
  have u4 : f11 (4 : Int32) (2 : Int32) (4 : Int32) fc = 0 := by rw [f11, if_neg (by decide), if_neg (by decide)]
  rcases own_dcase (fc (2 : Int32)) with ⟨a, nd⟩ | ⟨b2, c2, d2, z2, l2, h2⟩
  · have w : f11 (2 : Int32) (2 : Int32) (4 : Int32) fc = -1 := by rw [f11, if_neg (by decide), if_pos (by decide), if_pos a]
    rw [own_nd nd, f10, if_neg (by rw [u0]; decide), if_neg (by rw [u1]; decide), if_pos (by rw [w]; decide)]
  have u2 : f11 (2 : Int32) (2 : Int32) (4 : Int32) fc = (fc (2 : Int32) - 48) * (10 : Int32) := by rw [f11, if_neg (by decide), if_pos (by decide), if_neg z2, d2]; rfl
  have v2 : ¬ (fc (2 : Int32) - 48) * (10 : Int32) < 0 := own_tpos l2 h2 (10 : Int32) 10 rfl (by decide) (by decide)
  rcases own_dcase (fc (3 : Int32)) with ⟨a, nd⟩ | ⟨b3, c3, d3, z3, l3, h3⟩
  · have w : f11 (3 : Int32) (2 : Int32) (4 : Int32) fc = -1 := by rw [f11, if_neg (by decide), if_pos (by decide), if_pos a]
    rw [if_neg b2, if_neg c2, own_nd nd, f10, if_neg (by rw [u0]; decide), if_neg (by rw [u1]; decide), if_neg (by rw [u2]; exact v2), if_pos (by rw [w]; decide)]
  have u3 : f11 (3 : Int32) (2 : Int32) (4 : Int32) fc = (fc (3 : Int32) - 48) * (1 : Int32) := by rw [f11, if_neg (by decide), if_pos (by decide), if_neg z3, d3]; rfl
  have v3 : ¬ (fc (3 : Int32) - 48) * (1 : Int32) < 0 := own_tpos l3 h3 (1 : Int32) 1 rfl (by decide) (by decide)
  rw [if_neg b2, if_neg c2, if_neg b3, if_neg c3, f10, if_neg (by rw [u0]; decide), if_neg (by rw [u1]; decide), if_neg (by rw [u2]; exact v2), if_neg (by rw [u3]; exact v3), if_neg (by rw [u4]; decide), u0, u1, u2, u3, u4]
  try grind
theorem own_c_3_4 (fc : Int32 → Int32) : own_parse fc 1 3 0 = f10 (3 : Int32) (4 : Int32) fc := by
  have e : own_parse fc 1 3 0 = (if fc (3 : Int32) < 48 then (-1 : Int32) else if 57 < fc (3 : Int32) then -1 else ((0 : Int32) * 10 + fc (3 : Int32) - 48)) := rfl
  rw [e]
  have u0 : f11 (0 : Int32) (3 : Int32) (4 : Int32) fc = 0 := by rw [f11, if_pos (by decide)]
  have u1 : f11 (1 : Int32) (3 : Int32) (4 : Int32) fc = 0 := by rw [f11, if_pos (by decide)]
  have u2 : f11 (2 : Int32) (3 : Int32) (4 : Int32) fc = 0 := by rw [f11, if_pos (by decide)]
  have u4 : f11 (4 : Int32) (3 : Int32) (4 : Int32) fc = 0 := by rw [f11, if_neg (by decide), if_neg (by decide)]
  rcases own_dcase (fc (3 : Int32)) with ⟨a, nd⟩ | ⟨b3, c3, d3, z3, l3, h3⟩
  · have w : f11 (3 : Int32) (3 : Int32) (4 : Int32) fc = -1 := by rw [f11, if_neg (by decide), if_pos (by decide), if_pos a]
    rw [own_nd nd, f10, if_neg (by rw [u0]; decide), if_neg (by rw [u1]; decide), if_neg (by rw [u2]; decide), if_pos (by rw [w]; decide)]
  have u3 : f11 (3 : Int32) (3 : Int32) (4 : Int32) fc = (fc (3 : Int32) - 48) * (1 : Int32) := by rw [f11, if_neg (by decide), if_pos (by decide), if_neg z3, d3]; rfl
  have v3 : ¬ (fc (3 : Int32) - 48) * (1 : Int32) < 0 := own_tpos l3 h3 (1 : Int32) 1 rfl (by decide) (by decide)
  rw [if_neg b3, if_neg c3, f10, if_neg (by rw [u0]; decide), if_neg (by rw [u1]; decide), if_neg (by rw [u2]; decide), if_neg (by rw [u3]; exact v3), if_neg (by rw [u4]; decide), u0, u1, u2, u3, u4]
  try grind
theorem own_c_4_4 (fc : Int32 → Int32) : own_parse fc 0 4 0 = f10 (4 : Int32) (4 : Int32) fc := by
  have e : own_parse fc 0 4 0 = (0 : Int32) := rfl
  rw [e]
  have u0 : f11 (0 : Int32) (4 : Int32) (4 : Int32) fc = 0 := by rw [f11, if_pos (by decide)]
  have u1 : f11 (1 : Int32) (4 : Int32) (4 : Int32) fc = 0 := by rw [f11, if_pos (by decide)]
  have u2 : f11 (2 : Int32) (4 : Int32) (4 : Int32) fc = 0 := by rw [f11, if_pos (by decide)]
  have u3 : f11 (3 : Int32) (4 : Int32) (4 : Int32) fc = 0 := by rw [f11, if_pos (by decide)]
  have u4 : f11 (4 : Int32) (4 : Int32) (4 : Int32) fc = 0 := by rw [f11, if_neg (by decide), if_neg (by decide)]
  rw [f10, if_neg (by rw [u0]; decide), if_neg (by rw [u1]; decide), if_neg (by rw [u2]; decide), if_neg (by rw [u3]; decide), if_neg (by rw [u4]; decide), u0, u1, u2, u3, u4]
  try grind
theorem own_c_0_5 (fc : Int32 → Int32) : own_parse fc 5 0 0 = f10 (0 : Int32) (5 : Int32) fc := by
  have e : own_parse fc 5 0 0 = (if fc (0 : Int32) < 48 then (-1 : Int32) else if 57 < fc (0 : Int32) then -1 else (if fc (1 : Int32) < 48 then (-1 : Int32) else if 57 < fc (1 : Int32) then -1 else (if fc (2 : Int32) < 48 then (-1 : Int32) else if 57 < fc (2 : Int32) then -1 else (if fc (3 : Int32) < 48 then (-1 : Int32) else if 57 < fc (3 : Int32) then -1 else (if fc (4 : Int32) < 48 then (-1 : Int32) else if 57 < fc (4 : Int32) then -1 else ((((((0 : Int32) * 10 + fc (0 : Int32) - 48) * 10 + fc (1 : Int32) - 48) * 10 + fc (2 : Int32) - 48) * 10 + fc (3 : Int32) - 48) * 10 + fc (4 : Int32) - 48)))))) := rfl
  rw [e]
  rcases own_dcase (fc (0 : Int32)) with ⟨a, nd⟩ | ⟨b0, c0, d0, z0, l0, h0⟩
  · have w : f11 (0 : Int32) (0 : Int32) (5 : Int32) fc = -1 := by rw [f11, if_neg (by decide), if_pos (by decide), if_pos a]
    rw [own_nd nd, f10, if_pos (by rw [w]; decide)]
  have u0 : f11 (0 : Int32) (0 : Int32) (5 : Int32) fc = (fc (0 : Int32) - 48) * (10000 : Int32) := by rw [f11, if_neg (by decide), if_pos (by decide), if_neg z0, d0]; rfl
  have v0 : ¬ (fc (0 : Int32) - 48) * (10000 : Int32) < 0 := own_tpos l0 h0 (10000 : Int32) 10000 rfl (by decide) (by decide)
  rcases own_dcase (fc (1 : Int32)) with ⟨a, nd⟩ | ⟨b1, c1, d1, z1, l1, h1⟩
  · have w : f11 (1 : Int32) (0 : Int32) (5 : Int32) fc = -1 := by rw [f11, if_neg (by decide), if_pos (by decide), if_pos a]
    rw [if_neg b0, if_neg c0, own_nd nd, f10, if_neg (by rw [u0]; exact v0), if_pos (by rw [w]; decide)]
  have u1 : f11 (1 : Int32) (0 : Int32) (5 : Int32) fc = (fc (1 : Int32) - 48) * (1000 : Int32) := by rw [f11, if_neg (by decide), if_pos (by decide), if_neg z1, d1]; rfl
  have v1 : ¬ (fc (1 : Int32) - 48) * (1000 : Int32) < 0 := own_tpos l1 h1 (1000 : Int32) 1000 rfl (by decide) (by decide)
  rcases own_dcase (fc (2 : Int32)) with ⟨a, nd⟩ | ⟨b2, c2, d2, z2, l2, h2⟩
  · have w : f11 (2 : Int32) (0 : Int32) (5 : Int32) fc = -1 := by rw [f11, if_neg (by decide), if_pos (by decide), if_pos a]
    rw [if_neg b0, if_neg c0, if_neg b1, if_neg c1, own_nd nd, f10, if_neg (by rw [u0]; exact v0), if_neg (by rw [u1]; exact v1), if_pos (by rw [w]; decide)]
  have u2 : f11 (2 : Int32) (0 : Int32) (5 : Int32) fc = (fc (2 : Int32) - 48) * (100 : Int32) := by rw [f11, if_neg (by decide), if_pos (by decide), if_neg z2, d2]; rfl
  have v2 : ¬ (fc (2 : Int32) - 48) * (100 : Int32) < 0 := own_tpos l2 h2 (100 : Int32) 100 rfl (by decide) (by decide)
  rcases own_dcase (fc (3 : Int32)) with ⟨a, nd⟩ | ⟨b3, c3, d3, z3, l3, h3⟩
  · have w : f11 (3 : Int32) (0 : Int32) (5 : Int32) fc = -1 := by rw [f11, if_neg (by decide), if_pos (by decide), if_pos a]
    rw [if_neg b0, if_neg c0, if_neg b1, if_neg c1, if_neg b2, if_neg c2, own_nd nd, f10, if_neg (by rw [u0]; exact v0), if_neg (by rw [u1]; exact v1), if_neg (by rw [u2]; exact v2), if_pos (by rw [w]; decide)]
  have u3 : f11 (3 : Int32) (0 : Int32) (5 : Int32) fc = (fc (3 : Int32) - 48) * (10 : Int32) := by rw [f11, if_neg (by decide), if_pos (by decide), if_neg z3, d3]; rfl
  have v3 : ¬ (fc (3 : Int32) - 48) * (10 : Int32) < 0 := own_tpos l3 h3 (10 : Int32) 10 rfl (by decide) (by decide)
  rcases own_dcase (fc (4 : Int32)) with ⟨a, nd⟩ | ⟨b4, c4, d4, z4, l4, h4⟩
  · have w : f11 (4 : Int32) (0 : Int32) (5 : Int32) fc = -1 := by rw [f11, if_neg (by decide), if_pos (by decide), if_pos a]
    rw [if_neg b0, if_neg c0, if_neg b1, if_neg c1, if_neg b2, if_neg c2, if_neg b3, if_neg c3, own_nd nd, f10, if_neg (by rw [u0]; exact v0), if_neg (by rw [u1]; exact v1), if_neg (by rw [u2]; exact v2), if_neg (by rw [u3]; exact v3), if_pos (by rw [w]; decide)]
  have u4 : f11 (4 : Int32) (0 : Int32) (5 : Int32) fc = (fc (4 : Int32) - 48) * (1 : Int32) := by rw [f11, if_neg (by decide), if_pos (by decide), if_neg z4, d4]; rfl
  have v4 : ¬ (fc (4 : Int32) - 48) * (1 : Int32) < 0 := own_tpos l4 h4 (1 : Int32) 1 rfl (by decide) (by decide)
  rw [if_neg b0, if_neg c0, if_neg b1, if_neg c1, if_neg b2, if_neg c2, if_neg b3, if_neg c3, if_neg b4, if_neg c4, f10, if_neg (by rw [u0]; exact v0), if_neg (by rw [u1]; exact v1), if_neg (by rw [u2]; exact v2), if_neg (by rw [u3]; exact v3), if_neg (by rw [u4]; exact v4), u0, u1, u2, u3, u4]
  try grind
theorem own_c_1_5 (fc : Int32 → Int32) : own_parse fc 4 1 0 = f10 (1 : Int32) (5 : Int32) fc := by
  have e : own_parse fc 4 1 0 = (if fc (1 : Int32) < 48 then (-1 : Int32) else if 57 < fc (1 : Int32) then -1 else (if fc (2 : Int32) < 48 then (-1 : Int32) else if 57 < fc (2 : Int32) then -1 else (if fc (3 : Int32) < 48 then (-1 : Int32) else if 57 < fc (3 : Int32) then -1 else (if fc (4 : Int32) < 48 then (-1 : Int32) else if 57 < fc (4 : Int32) then -1 else (((((0 : Int32) * 10 + fc (1 : Int32) - 48) * 10 + fc (2 : Int32) - 48) * 10 + fc (3 : Int32) - 48) * 10 + fc (4 : Int32) - 48))))) := rfl
  rw [e]
  have u0 : f11 (0 : Int32) (1 : Int32) (5 : Int32) fc = 0 := by rw [f11, if_pos (by decide)]
  rcases own_dcase (fc (1 : Int32)) with ⟨a, nd⟩ | ⟨b1, c1, d1, z1, l1, h1⟩
  · have w : f11 (1 : Int32) (1 : Int32) (5 : Int32) fc = -1 := by rw [f11, if_neg (by decide), if_pos (by decide), if_pos a]
    rw [own_nd nd, f10, if_neg (by rw [u0]; decide), if_pos (by rw [w]; decide)]
  have u1 : f11 (1 : Int32) (1 : Int32) (5 : Int32) fc = (fc (1 : Int32) - 48) * (1000 : Int32) := by rw [f11, if_neg (by decide), if_pos (by decide), if_neg z1, d1]; rfl
  have v1 : ¬ (fc (1 : Int32) - 48) * (1000 : Int32) < 0 := own_tpos l1 h1 (1000 : Int32) 1000 rfl (by decide) (by decide)
  rcases own_dcase (fc (2 : Int32)) with ⟨a, nd⟩ | ⟨b2, c2, d2, z2, l2, h2⟩
  · have w : f11 (2 : Int32) (1 : Int32) (5 : Int32) fc = -1 := by rw [f11, if_neg (by decide), if_pos (by decide), if_pos a]
    rw [if_neg b1, if_neg c1, own_nd nd, f10, if_neg (by rw [u0]; decide), if_neg (by rw [u1]; exact v1), if_pos (by rw [w]; decide)]
  have u2 : f11 (2 : Int32) (1 : Int32) (5 : Int32) fc = (fc (2 : Int32) - 48) * (100 : Int32) := by rw [f11, if_neg (by decide), if_pos (by decide), if_neg z2, d2]; rfl
  have v2 : ¬ (fc (2 : Int32) - 48) * (100 : Int32) < 0 := own_tpos l2 h2 (100 : Int32) 100 rfl (by decide) (by decide)
  rcases own_dcase (fc (3 : Int32)) with ⟨a, nd⟩ | ⟨b3, c3, d3, z3, l3, h3⟩
  · have w : f11 (3 : Int32) (1 : Int32) (5 : Int32) fc = -1 := by rw [f11, if_neg (by decide), if_pos (by decide), if_pos a]
    rw [if_neg b1, if_neg c1, if_neg b2, if_neg c2, own_nd nd, f10, if_neg (by rw [u0]; decide), if_neg (by rw [u1]; exact v1), if_neg (by rw [u2]; exact v2), if_pos (by rw [w]; decide)]
  have u3 : f11 (3 : Int32) (1 : Int32) (5 : Int32) fc = (fc (3 : Int32) - 48) * (10 : Int32) := by rw [f11, if_neg (by decide), if_pos (by decide), if_neg z3, d3]; rfl
  have v3 : ¬ (fc (3 : Int32) - 48) * (10 : Int32) < 0 := own_tpos l3 h3 (10 : Int32) 10 rfl (by decide) (by decide)
  rcases own_dcase (fc (4 : Int32)) with ⟨a, nd⟩ | ⟨b4, c4, d4, z4, l4, h4⟩
  · have w : f11 (4 : Int32) (1 : Int32) (5 : Int32) fc = -1 := by rw [f11, if_neg (by decide), if_pos (by decide), if_pos a]
    rw [if_neg b1, if_neg c1, if_neg b2, if_neg c2, if_neg b3, if_neg c3, own_nd nd, f10, if_neg (by rw [u0]; decide), if_neg (by rw [u1]; exact v1), if_neg (by rw [u2]; exact v2), if_neg (by rw [u3]; exact v3), if_pos (by rw [w]; decide)]
  have u4 : f11 (4 : Int32) (1 : Int32) (5 : Int32) fc = (fc (4 : Int32) - 48) * (1 : Int32) := by rw [f11, if_neg (by decide), if_pos (by decide), if_neg z4, d4]; rfl
  have v4 : ¬ (fc (4 : Int32) - 48) * (1 : Int32) < 0 := own_tpos l4 h4 (1 : Int32) 1 rfl (by decide) (by decide)
  rw [if_neg b1, if_neg c1, if_neg b2, if_neg c2, if_neg b3, if_neg c3, if_neg b4, if_neg c4, f10, if_neg (by rw [u0]; decide), if_neg (by rw [u1]; exact v1), if_neg (by rw [u2]; exact v2), if_neg (by rw [u3]; exact v3), if_neg (by rw [u4]; exact v4), u0, u1, u2, u3, u4]
  try grind
theorem own_c_2_5 (fc : Int32 → Int32) : own_parse fc 3 2 0 = f10 (2 : Int32) (5 : Int32) fc := by
  have e : own_parse fc 3 2 0 = (if fc (2 : Int32) < 48 then (-1 : Int32) else if 57 < fc (2 : Int32) then -1 else (if fc (3 : Int32) < 48 then (-1 : Int32) else if 57 < fc (3 : Int32) then -1 else (if fc (4 : Int32) < 48 then (-1 : Int32) else if 57 < fc (4 : Int32) then -1 else ((((0 : Int32) * 10 + fc (2 : Int32) - 48) * 10 + fc (3 : Int32) - 48) * 10 + fc (4 : Int32) - 48)))) := rfl
  rw [e]
  have u0 : f11 (0 : Int32) (2 : Int32) (5 : Int32) fc = 0 := by rw [f11, if_pos (by decide)]
  have u1 : f11 (1 : Int32) (2 : Int32) (5 : Int32) fc = 0 := by rw [f11, if_pos (by decide)]
  rcases own_dcase (fc (2 : Int32)) with ⟨a, nd⟩ | ⟨b2, c2, d2, z2, l2, h2⟩
  · have w : f11 (2 : Int32) (2 : Int32) (5 : Int32) fc = -1 := by rw [f11, if_neg (by decide), if_pos (by decide), if_pos a]
    rw [own_nd nd, f10, if_neg (by rw [u0]; decide), if_neg (by rw [u1]; decide), if_pos (by rw [w]; decide)]
  have u2 : f11 (2 : Int32) (2 : Int32) (5 : Int32) fc = (fc (2 : Int32) - 48) * (100 : Int32) := by rw [f11, if_neg (by decide), if_pos (by decide), if_neg z2, d2]; rfl
  have v2 : ¬ (fc (2 : Int32) - 48) * (100 : Int32) < 0 := own_tpos l2 h2 (100 : Int32) 100 rfl (by decide) (by decide)
  rcases own_dcase (fc (3 : Int32)) with ⟨a, nd⟩ | ⟨b3, c3, d3, z3, l3, h3⟩
  · have w : f11 (3 : Int32) (2 : Int32) (5 : Int32) fc = -1 := by rw [f11, if_neg (by decide), if_pos (by decide), if_pos a]
    rw [if_neg b2, if_neg c2, own_nd nd, f10, if_neg (by rw [u0]; decide), if_neg (by rw [u1]; decide), if_neg (by rw [u2]; exact v2), if_pos (by rw [w]; decide)]
  have u3 : f11 (3 : Int32) (2 : Int32) (5 : Int32) fc = (fc (3 : Int32) - 48) * (10 : Int32) := by rw [f11, if_neg (by decide), if_pos (by decide), if_neg z3, d3]; rfl
  have v3 : ¬ (fc (3 : Int32) - 48) * (10 : Int32) < 0 := own_tpos l3 h3 (10 : Int32) 10 rfl (by decide) (by decide)
  rcases own_dcase (fc (4 : Int32)) with ⟨a, nd⟩ | ⟨b4, c4, d4, z4, l4, h4⟩
  · have w : f11 (4 : Int32) (2 : Int32) (5 : Int32) fc = -1 := by rw [f11, if_neg (by decide), if_pos (by decide), if_pos a]
    rw [if_neg b2, if_neg c2, if_neg b3, if_neg c3, own_nd nd, f10, if_neg (by rw [u0]; decide), if_neg (by rw [u1]; decide), if_neg (by rw [u2]; exact v2), if_neg (by rw [u3]; exact v3), if_pos (by rw [w]; decide)]
  have u4 : f11 (4 : Int32) (2 : Int32) (5 : Int32) fc = (fc (4 : Int32) - 48) * (1 : Int32) := by rw [f11, if_neg (by decide), if_pos (by decide), if_neg z4, d4]; rfl
  have v4 : ¬ (fc (4 : Int32) - 48) * (1 : Int32) < 0 := own_tpos l4 h4 (1 : Int32) 1 rfl (by decide) (by decide)
  rw [if_neg b2, if_neg c2, if_neg b3, if_neg c3, if_neg b4, if_neg c4, f10, if_neg (by rw [u0]; decide), if_neg (by rw [u1]; decide), if_neg (by rw [u2]; exact v2), if_neg (by rw [u3]; exact v3), if_neg (by rw [u4]; exact v4), u0, u1, u2, u3, u4]
  try grind
theorem own_c_3_5 (fc : Int32 → Int32) : own_parse fc 2 3 0 = f10 (3 : Int32) (5 : Int32) fc := by
  have e : own_parse fc 2 3 0 = (if fc (3 : Int32) < 48 then (-1 : Int32) else if 57 < fc (3 : Int32) then -1 else (if fc (4 : Int32) < 48 then (-1 : Int32) else if 57 < fc (4 : Int32) then -1 else (((0 : Int32) * 10 + fc (3 : Int32) - 48) * 10 + fc (4 : Int32) - 48))) := rfl
  rw [e]
  have u0 : f11 (0 : Int32) (3 : Int32) (5 : Int32) fc = 0 := by rw [f11, if_pos (by decide)]
  have u1 : f11 (1 : Int32) (3 : Int32) (5 : Int32) fc = 0 := by rw [f11, if_pos (by decide)]
  have u2 : f11 (2 : Int32) (3 : Int32) (5 : Int32) fc = 0 := by rw [f11, if_pos (by decide)]
  rcases own_dcase (fc (3 : Int32)) with ⟨a, nd⟩ | ⟨b3, c3, d3, z3, l3, h3⟩
  · have w : f11 (3 : Int32) (3 : Int32) (5 : Int32) fc = -1 := by rw [f11, if_neg (by decide), if_pos (by decide), if_pos a]
    rw [own_nd nd, f10, if_neg (by rw [u0]; decide), if_neg (by rw [u1]; decide), if_neg (by rw [u2]; decide), if_pos (by rw [w]; decide)]
  have u3 : f11 (3 : Int32) (3 : Int32) (5 : Int32) fc = (fc (3 : Int32) - 48) * (10 : Int32) := by rw [f11, if_neg (by decide), if_pos (by decide), if_neg z3, d3]; rfl
  have v3 : ¬ (fc (3 : Int32) - 48) * (10 : Int32) < 0 := own_tpos l3 h3 (10 : Int32) 10 rfl (by decide) (by decide)
  rcases own_dcase (fc (4 : Int32)) with ⟨a, nd⟩ | ⟨b4, c4, d4, z4, l4, h4⟩
  · have w : f11 (4 : Int32) (3 : Int32) (5 : Int32) fc = -1 := by rw [f11, if_neg (by decide), if_pos (by decide), if_pos a]
    rw [if_neg b3, if_neg c3, own_nd nd, f10, if_neg (by rw [u0]; decide), if_neg (by rw [u1]; decide), if_neg (by rw [u2]; decide), if_neg (by rw [u3]; exact v3), if_pos (by rw [w]; decide)]
  have u4 : f11 (4 : Int32) (3 : Int32) (5 : Int32) fc = (fc (4 : Int32) - 48) * (1 : Int32) := by rw [f11, if_neg (by decide), if_pos (by decide), if_neg z4, d4]; rfl
  have v4 : ¬ (fc (4 : Int32) - 48) * (1 : Int32) < 0 := own_tpos l4 h4 (1 : Int32) 1 rfl (by decide) (by decide)
  rw [if_neg b3, if_neg c3, if_neg b4, if_neg c4, f10, if_neg (by rw [u0]; decide), if_neg (by rw [u1]; decide), if_neg (by rw [u2]; decide), if_neg (by rw [u3]; exact v3), if_neg (by rw [u4]; exact v4), u0, u1, u2, u3, u4]
  try grind
theorem own_c_4_5 (fc : Int32 → Int32) : own_parse fc 1 4 0 = f10 (4 : Int32) (5 : Int32) fc := by
  have e : own_parse fc 1 4 0 = (if fc (4 : Int32) < 48 then (-1 : Int32) else if 57 < fc (4 : Int32) then -1 else ((0 : Int32) * 10 + fc (4 : Int32) - 48)) := rfl
  rw [e]
  have u0 : f11 (0 : Int32) (4 : Int32) (5 : Int32) fc = 0 := by rw [f11, if_pos (by decide)]
  have u1 : f11 (1 : Int32) (4 : Int32) (5 : Int32) fc = 0 := by rw [f11, if_pos (by decide)]
  have u2 : f11 (2 : Int32) (4 : Int32) (5 : Int32) fc = 0 := by rw [f11, if_pos (by decide)]
  have u3 : f11 (3 : Int32) (4 : Int32) (5 : Int32) fc = 0 := by rw [f11, if_pos (by decide)]
  rcases own_dcase (fc (4 : Int32)) with ⟨a, nd⟩ | ⟨b4, c4, d4, z4, l4, h4⟩
  · have w : f11 (4 : Int32) (4 : Int32) (5 : Int32) fc = -1 := by rw [f11, if_neg (by decide), if_pos (by decide), if_pos a]
    rw [own_nd nd, f10, if_neg (by rw [u0]; decide), if_neg (by rw [u1]; decide), if_neg (by rw [u2]; decide), if_neg (by rw [u3]; decide), if_pos (by rw [w]; decide)]
  have u4 : f11 (4 : Int32) (4 : Int32) (5 : Int32) fc = (fc (4 : Int32) - 48) * (1 : Int32) := by rw [f11, if_neg (by decide), if_pos (by decide), if_neg z4, d4]; rfl
  have v4 : ¬ (fc (4 : Int32) - 48) * (1 : Int32) < 0 := own_tpos l4 h4 (1 : Int32) 1 rfl (by decide) (by decide)
  rw [if_neg b4, if_neg c4, f10, if_neg (by rw [u0]; decide), if_neg (by rw [u1]; decide), if_neg (by rw [u2]; decide), if_neg (by rw [u3]; decide), if_neg (by rw [u4]; exact v4), u0, u1, u2, u3, u4]
  try grind
theorem own_c_5_5 (fc : Int32 → Int32) : own_parse fc 0 5 0 = f10 (5 : Int32) (5 : Int32) fc := by
  have e : own_parse fc 0 5 0 = (0 : Int32) := rfl
  rw [e]
  have u0 : f11 (0 : Int32) (5 : Int32) (5 : Int32) fc = 0 := by rw [f11, if_pos (by decide)]
  have u1 : f11 (1 : Int32) (5 : Int32) (5 : Int32) fc = 0 := by rw [f11, if_pos (by decide)]
  have u2 : f11 (2 : Int32) (5 : Int32) (5 : Int32) fc = 0 := by rw [f11, if_pos (by decide)]
  have u3 : f11 (3 : Int32) (5 : Int32) (5 : Int32) fc = 0 := by rw [f11, if_pos (by decide)]
  have u4 : f11 (4 : Int32) (5 : Int32) (5 : Int32) fc = 0 := by rw [f11, if_pos (by decide)]
  rw [f10, if_neg (by rw [u0]; decide), if_neg (by rw [u1]; decide), if_neg (by rw [u2]; decide), if_neg (by rw [u3]; decide), if_neg (by rw [u4]; decide), u0, u1, u2, u3, u4]
  try grind
theorem own_plain (fc : Int32 → Int32) (lo hi : Nat) (hlo : lo ≤ hi) (hhi : hi ≤ 5) : own_parse fc (hi - lo) lo 0 = f10 (Int32.ofNat lo) (Int32.ofNat hi) fc := by
  rcases (by omega : hi = 0 ∨ hi = 1 ∨ hi = 2 ∨ hi = 3 ∨ hi = 4 ∨ hi = 5) with rfl | rfl | rfl | rfl | rfl | rfl
  · rcases (by omega : lo = 0) with rfl
    · exact own_c_0_0 fc
  · rcases (by omega : lo = 0 ∨ lo = 1) with rfl | rfl
    · exact own_c_0_1 fc
    · exact own_c_1_1 fc
  · rcases (by omega : lo = 0 ∨ lo = 1 ∨ lo = 2) with rfl | rfl | rfl
    · exact own_c_0_2 fc
    · exact own_c_1_2 fc
    · exact own_c_2_2 fc
  · rcases (by omega : lo = 0 ∨ lo = 1 ∨ lo = 2 ∨ lo = 3) with rfl | rfl | rfl | rfl
    · exact own_c_0_3 fc
    · exact own_c_1_3 fc
    · exact own_c_2_3 fc
    · exact own_c_3_3 fc
  · rcases (by omega : lo = 0 ∨ lo = 1 ∨ lo = 2 ∨ lo = 3 ∨ lo = 4) with rfl | rfl | rfl | rfl | rfl
    · exact own_c_0_4 fc
    · exact own_c_1_4 fc
    · exact own_c_2_4 fc
    · exact own_c_3_4 fc
    · exact own_c_4_4 fc
  · rcases (by omega : lo = 0 ∨ lo = 1 ∨ lo = 2 ∨ lo = 3 ∨ lo = 4 ∨ lo = 5) with rfl | rfl | rfl | rfl | rfl | rfl
    · exact own_c_0_5 fc
    · exact own_c_1_5 fc
    · exact own_c_2_5 fc
    · exact own_c_3_5 fc
    · exact own_c_4_5 fc
    · exact own_c_5_5 fc
theorem own_true (fc : Int32 → Int32) (z_C : Int32) (s_F : Value) (hp : ∀ k, k < 5 → ¬ fc (Int32.ofNat k) < 0 ∧ ¬ (255 : Int32) < fc (Int32.ofNat k)) (lo hi : Nat) (hlo : lo ≤ hi) (hhi : hi ≤ 5) : own_parse (fun z => f14 z (fun j => (fc j).toInt8.toInt32) z_C s_F) (hi - lo) lo 0 = f10 (Int32.ofNat lo) (Int32.ofNat hi) fc := by
  rw [← own_plain fc lo hi hlo hhi]
  exact own_parse_congr _ _ _ (fun j hj => own_chv (hp j (by omega)))
theorem ef_0 (m : MethodId) (q0 : Int64) (p1 : Int32) (p2 : Int32) (p3 : Int32) : entryFrame m #[(.long q0), (.int p1), (.int p2), (.int p3)] maxLocals = mkF m 0 #[.val (.long q0), .second, .val (.int p1), .val (.int p2), .val (.int p3), .unset, .unset, .unset, .unset, .unset, .unset, .unset] [] := by first | (simp [entryFrame, mkF, argsToLocals, Value.category, maxLocals]; done) | rfl
theorem pd___C_V : parseMethodDescriptor "([C)V" = some ⟨[(.array .char)], none⟩ := by decide +kernel
theorem pd__II_I : parseMethodDescriptor "(II)I" = some ⟨[.int, .int], some .int⟩ := by decide +kernel
theorem pd___CII_I : parseMethodDescriptor "([CII)I" = some ⟨[(.array .char), .int, .int], some .int⟩ := by decide +kernel
theorem pd__Ljava_lang_String_II_I : parseMethodDescriptor "(Ljava/lang/String;II)I" = some ⟨[(.object "java/lang/String"), .int, .int], some .int⟩ := by decide +kernel
set_option maxRecDepth 65536 in
set_option maxHeartbeats 40000000 in
theorem rm0 (l : Launch) (Z : State) (a0 : Array Value) (hw : ∀ d ∈ tables_1, d.before a0 Z = true) (q0 : Int64) (p1 : Int32) (p2 : Int32) (p3 : Int32) (z_C : Int32) (s_F : Value) (h0 : Heap) (n0 : Nat) (O0 : Old Z n0 h0) (Z0 : n0 ≤ h0.size) (S_C : Sta Z Z.heap "java/lang/String" "COMPACT_STRINGS" "Z" (.int z_C)) (hz : ¬ z_C = 0) (S_F : Sta Z Z.heap "jdk/internal/util/Preconditions" "SIOOBE_FORMATTER" "Ljava/util/function/BiFunction;" s_F) (hr_F : s_F.isRef = true) :
    own_Met l Z n0 x code maxLocals ret room_1 #[(.long q0), (.int p1), (.int p2), (.int p3)] h0 (fun v h => v = some (.int 1) ∧ True) := by
  refine own_met (plainFor_of_name pn_1) ?_
  intro p e s m below meth c T0 hx hby hml hown hnm hret hlk hZ A0
  have hret : meth.sig.returnType = some .boolean := hret
  rw [ef_0]
  show own_Go _ _ _ _ (T0.setTop (mkF m 0 #[.val (.long q0), .second, .val (.int p1), .val (.int p2), .val (.int p3), .unset, .unset, .unset, .unset, .unset, .unset, .unset] []))
  refine own_go (fun t_ k_ => XS.iconst A0.here hx rfl (hb hby at_0) k_) ?_
  show own_Go _ _ _ _ (T0.setTop (mkF m 1 #[.val (.long q0), .second, .val (.int p1), .val (.int p2), .val (.int p3), .unset, .unset, .unset, .unset, .unset, .unset, .unset] [(.int (5 : Int32))]))
  refine own_newP A0 hx hZ (hw _ (List.mem_of_getElem? (i := 0) rfl)) rfl rfl (hb hby at_1) rfl (by decide) 5 (by decide) (by decide) (by decide) (by decide) (fun T1 h3 b4 ha_b4 A2 E5 V6 R7 => ?_)
  have g_b4 : n0 ≤ b4 := by rw [ha_b4]; exact Z0
  have O8 : Old Z n0 h3 := O0.ext E5
  have Z9 : n0 ≤ h3.size := Nat.le_trans Z0 E5.1
  show own_Go _ _ _ _ (T1.setTop (mkF m 3 #[.val (.long q0), .second, .val (.int p1), .val (.int p2), .val (.int p3), .unset, .unset, .unset, .unset, .unset, .unset, .unset] [(.ref b4)]))
  refine own_go (fun t_ k_ => XS.astore A2.here hx rfl (hb hby at_3) rfl rfl (l' := #[.val (.long q0), .second, .val (.int p1), .val (.int p2), .val (.int p3), .val (.ref b4), .unset, .unset, .unset, .unset, .unset, .unset]) rfl k_) ?_
  show own_Go _ _ _ _ (T1.setTop (mkF m 5 #[.val (.long q0), .second, .val (.int p1), .val (.int p2), .val (.int p3), .val (.ref b4), .unset, .unset, .unset, .unset, .unset, .unset] []))
  refine own_go (fun t_ k_ => XS.aload A2.here hx rfl (hb hby at_5) rfl rfl k_) ?_
  show own_Go _ _ _ _ (T1.setTop (mkF m 7 #[.val (.long q0), .second, .val (.int p1), .val (.int p2), .val (.int p3), .val (.ref b4), .unset, .unset, .unset, .unset, .unset, .unset] [(.ref b4)]))
  refine own_go (fun t_ k_ => XS.iconst A2.here hx rfl (hb hby at_7) k_) ?_
  show own_Go _ _ _ _ (T1.setTop (mkF m 8 #[.val (.long q0), .second, .val (.int p1), .val (.int p2), .val (.int p3), .val (.ref b4), .unset, .unset, .unset, .unset, .unset, .unset] [(.int (0 : Int32)), (.ref b4)]))
  refine own_go (fun t_ k_ => XS.lloadN A2.here hx rfl (hb hby at_8) rfl k_) ?_
  show own_Go _ _ _ _ (T1.setTop (mkF m 9 #[.val (.long q0), .second, .val (.int p1), .val (.int p2), .val (.int p3), .val (.ref b4), .unset, .unset, .unset, .unset, .unset, .unset] [(.long q0), (.int (0 : Int32)), (.ref b4)]))
  refine own_ldcJ A2 hx hZ hown (hw _ (List.mem_of_getElem? (i := 1) rfl)) rfl (hb hby at_9) ?_
  show own_Go _ _ _ _ (T1.setTop (mkF m 12 #[.val (.long q0), .second, .val (.int p1), .val (.int p2), .val (.int p3), .val (.ref b4), .unset, .unset, .unset, .unset, .unset, .unset] [(.long (65535 : Int64)), (.long q0), (.int (0 : Int32)), (.ref b4)]))
  refine own_go (fun t_ k_ => XS.land A2.here hx rfl (hb hby at_12) rfl k_) ?_
  show own_Go _ _ _ _ (T1.setTop (mkF m 13 #[.val (.long q0), .second, .val (.int p1), .val (.int p2), .val (.int p3), .val (.ref b4), .unset, .unset, .unset, .unset, .unset, .unset] [(.long (q0 &&& (65535 : Int64))), (.int (0 : Int32)), (.ref b4)]))
  refine own_go (fun t_ k_ => XS.l2i A2.here hx rfl (hb hby at_13) rfl k_) ?_
  show own_Go _ _ _ _ (T1.setTop (mkF m 14 #[.val (.long q0), .second, .val (.int p1), .val (.int p2), .val (.int p3), .val (.ref b4), .unset, .unset, .unset, .unset, .unset, .unset] [(.int ((q0 &&& (65535 : Int64)).toInt32)), (.int (0 : Int32)), (.ref b4)]))
  refine own_callS A2 hx hZ hown (y := (⟨"com/example/vestledger/vestledger/DigitsParsePinLaw", "draw", "(I)C"⟩ : MethodName)) (hw _ (List.mem_of_getElem? (i := 2) rfl)) (hw _ (List.mem_of_getElem? (i := 3) rfl)) (hw _ (List.mem_of_getElem? (i := 4) rfl)) (hw _ (List.mem_of_getElem? (i := 5) rfl)) (by decide) (argsL := [(.int ((q0 &&& (65535 : Int64)).toInt32))]) (rest := [(.int (0 : Int32)), (.ref b4)]) (rm1 l Z a0 hw ((q0 &&& (65535 : Int64)).toInt32) h3 n0 ) 2 (by decide) (by decide) rfl (by rw [hml]; rfl) (lenOf pd__I_C rfl) rfl (by show 2 * 0 + _ ≤ _; exact Nat.le_of_eq rfl) (hb hby at_14) (by decide) (by decide) (fun v13 T10 h12 A11 hQ14 => ?_)
  obtain ⟨rfl, rfl⟩ := hQ14
  show own_Go _ _ _ _ (T10.setTop (mkF m 17 #[.val (.long q0), .second, .val (.int p1), .val (.int p2), .val (.int p3), .val (.ref b4), .unset, .unset, .unset, .unset, .unset, .unset] [(.int (f1 ((q0 &&& (65535 : Int64)).toInt32))), (.int (0 : Int32)), (.ref b4)]))
  refine own_stC A11 hx hZ V6 ⟨by decide, by decide⟩ g_b4 rfl rfl (hb hby at_17) (fun T15 h17 A16 W18 V19 => ?_)
  have O20 : Old Z n0 h17 := O8.wr W18 g_b4
  have Z21 : n0 ≤ h17.size := Nat.le_trans Z9 (Nat.le_of_eq (Wr.size W18).symm)
  have V22 : own_Arr Z h17 b4 .char (5 : Int32) (fun i => if i = (0 : Int32) then nar .char (f1 ((q0 &&& (65535 : Int64)).toInt32)) else (fun _ => 0) i) := V19
  show own_Go _ _ _ _ (T15.setTop (mkF m 18 #[.val (.long q0), .second, .val (.int p1), .val (.int p2), .val (.int p3), .val (.ref b4), .unset, .unset, .unset, .unset, .unset, .unset] []))
  refine own_go (fun t_ k_ => XS.aload A16.here hx rfl (hb hby at_18) rfl rfl k_) ?_
  show own_Go _ _ _ _ (T15.setTop (mkF m 20 #[.val (.long q0), .second, .val (.int p1), .val (.int p2), .val (.int p3), .val (.ref b4), .unset, .unset, .unset, .unset, .unset, .unset] [(.ref b4)]))
  refine own_go (fun t_ k_ => XS.iconst A16.here hx rfl (hb hby at_20) k_) ?_
  show own_Go _ _ _ _ (T15.setTop (mkF m 21 #[.val (.long q0), .second, .val (.int p1), .val (.int p2), .val (.int p3), .val (.ref b4), .unset, .unset, .unset, .unset, .unset, .unset] [(.int (1 : Int32)), (.ref b4)]))
  refine own_go (fun t_ k_ => XS.lloadN A16.here hx rfl (hb hby at_21) rfl k_) ?_
  show own_Go _ _ _ _ (T15.setTop (mkF m 22 #[.val (.long q0), .second, .val (.int p1), .val (.int p2), .val (.int p3), .val (.ref b4), .unset, .unset, .unset, .unset, .unset, .unset] [(.long q0), (.int (1 : Int32)), (.ref b4)]))
  refine own_go (fun t_ k_ => XS.bipush A16.here hx rfl (hb hby at_22) k_) ?_
  show own_Go _ _ _ _ (T15.setTop (mkF m 24 #[.val (.long q0), .second, .val (.int p1), .val (.int p2), .val (.int p3), .val (.ref b4), .unset, .unset, .unset, .unset, .unset, .unset] [(.int (16 : Int32)), (.long q0), (.int (1 : Int32)), (.ref b4)]))
  refine own_go (fun t_ k_ => XS.lushr A16.here hx rfl (hb hby at_24) rfl k_) ?_
  show own_Go _ _ _ _ (T15.setTop (mkF m 25 #[.val (.long q0), .second, .val (.int p1), .val (.int p2), .val (.int p3), .val (.ref b4), .unset, .unset, .unset, .unset, .unset, .unset] [(.long ((q0.toUInt64 >>> ((16 : Int32) &&& 0x3f).toInt64.toUInt64).toInt64)), (.int (1 : Int32)), (.ref b4)]))
  refine own_ldcJ A16 hx hZ hown (hw _ (List.mem_of_getElem? (i := 1) rfl)) rfl (hb hby at_25) ?_
  show own_Go _ _ _ _ (T15.setTop (mkF m 28 #[.val (.long q0), .second, .val (.int p1), .val (.int p2), .val (.int p3), .val (.ref b4), .unset, .unset, .unset, .unset, .unset, .unset] [(.long (65535 : Int64)), (.long ((q0.toUInt64 >>> ((16 : Int32) &&& 0x3f).toInt64.toUInt64).toInt64)), (.int (1 : Int32)), (.ref b4)]))
  refine own_go (fun t_ k_ => XS.land A16.here hx rfl (hb hby at_28) rfl k_) ?_
  show own_Go _ _ _ _ (T15.setTop (mkF m 29 #[.val (.long q0), .second, .val (.int p1), .val (.int p2), .val (.int p3), .val (.ref b4), .unset, .unset, .unset, .unset, .unset, .unset] [(.long (((q0.toUInt64 >>> ((16 : Int32) &&& 0x3f).toInt64.toUInt64).toInt64) &&& (65535 : Int64))), (.int (1 : Int32)), (.ref b4)]))
  refine own_go (fun t_ k_ => XS.l2i A16.here hx rfl (hb hby at_29) rfl k_) ?_
  show own_Go _ _ _ _ (T15.setTop (mkF m 30 #[.val (.long q0), .second, .val (.int p1), .val (.int p2), .val (.int p3), .val (.ref b4), .unset, .unset, .unset, .unset, .unset, .unset] [(.int ((((q0.toUInt64 >>> ((16 : Int32) &&& 0x3f).toInt64.toUInt64).toInt64) &&& (65535 : Int64)).toInt32)), (.int (1 : Int32)), (.ref b4)]))
  refine own_callS A16 hx hZ hown (y := (⟨"com/example/vestledger/vestledger/DigitsParsePinLaw", "draw", "(I)C"⟩ : MethodName)) (hw _ (List.mem_of_getElem? (i := 2) rfl)) (hw _ (List.mem_of_getElem? (i := 3) rfl)) (hw _ (List.mem_of_getElem? (i := 4) rfl)) (hw _ (List.mem_of_getElem? (i := 5) rfl)) (by decide) (argsL := [(.int ((((q0.toUInt64 >>> ((16 : Int32) &&& 0x3f).toInt64.toUInt64).toInt64) &&& (65535 : Int64)).toInt32))]) (rest := [(.int (1 : Int32)), (.ref b4)]) (rm1 l Z a0 hw ((((q0.toUInt64 >>> ((16 : Int32) &&& 0x3f).toInt64.toUInt64).toInt64) &&& (65535 : Int64)).toInt32) h17 n0 ) 2 (by decide) (by decide) rfl (by rw [hml]; rfl) (lenOf pd__I_C rfl) rfl (by show 2 * 0 + _ ≤ _; exact Nat.le_of_eq rfl) (hb hby at_30) (by decide) (by decide) (fun v26 T23 h25 A24 hQ27 => ?_)
  obtain ⟨rfl, rfl⟩ := hQ27
  show own_Go _ _ _ _ (T23.setTop (mkF m 33 #[.val (.long q0), .second, .val (.int p1), .val (.int p2), .val (.int p3), .val (.ref b4), .unset, .unset, .unset, .unset, .unset, .unset] [(.int (f1 ((((q0.toUInt64 >>> ((16 : Int32) &&& 0x3f).toInt64.toUInt64).toInt64) &&& (65535 : Int64)).toInt32))), (.int (1 : Int32)), (.ref b4)]))
  refine own_stC A24 hx hZ V22 ⟨by decide, by decide⟩ g_b4 rfl rfl (hb hby at_33) (fun T28 h30 A29 W31 V32 => ?_)
  have O33 : Old Z n0 h30 := O20.wr W31 g_b4
  have Z34 : n0 ≤ h30.size := Nat.le_trans Z21 (Nat.le_of_eq (Wr.size W31).symm)
  have V35 : own_Arr Z h30 b4 .char (5 : Int32) (fun i => if i = (1 : Int32) then nar .char (f1 ((((q0.toUInt64 >>> ((16 : Int32) &&& 0x3f).toInt64.toUInt64).toInt64) &&& (65535 : Int64)).toInt32)) else (fun i => if i = (0 : Int32) then nar .char (f1 ((q0 &&& (65535 : Int64)).toInt32)) else (fun _ => 0) i) i) := V32
  show own_Go _ _ _ _ (T28.setTop (mkF m 34 #[.val (.long q0), .second, .val (.int p1), .val (.int p2), .val (.int p3), .val (.ref b4), .unset, .unset, .unset, .unset, .unset, .unset] []))
  refine own_go (fun t_ k_ => XS.aload A29.here hx rfl (hb hby at_34) rfl rfl k_) ?_
  show own_Go _ _ _ _ (T28.setTop (mkF m 36 #[.val (.long q0), .second, .val (.int p1), .val (.int p2), .val (.int p3), .val (.ref b4), .unset, .unset, .unset, .unset, .unset, .unset] [(.ref b4)]))
  refine own_go (fun t_ k_ => XS.iconst A29.here hx rfl (hb hby at_36) k_) ?_
  show own_Go _ _ _ _ (T28.setTop (mkF m 37 #[.val (.long q0), .second, .val (.int p1), .val (.int p2), .val (.int p3), .val (.ref b4), .unset, .unset, .unset, .unset, .unset, .unset] [(.int (2 : Int32)), (.ref b4)]))
  refine own_go (fun t_ k_ => XS.lloadN A29.here hx rfl (hb hby at_37) rfl k_) ?_
  show own_Go _ _ _ _ (T28.setTop (mkF m 38 #[.val (.long q0), .second, .val (.int p1), .val (.int p2), .val (.int p3), .val (.ref b4), .unset, .unset, .unset, .unset, .unset, .unset] [(.long q0), (.int (2 : Int32)), (.ref b4)]))
  refine own_go (fun t_ k_ => XS.bipush A29.here hx rfl (hb hby at_38) k_) ?_
  show own_Go _ _ _ _ (T28.setTop (mkF m 40 #[.val (.long q0), .second, .val (.int p1), .val (.int p2), .val (.int p3), .val (.ref b4), .unset, .unset, .unset, .unset, .unset, .unset] [(.int (32 : Int32)), (.long q0), (.int (2 : Int32)), (.ref b4)]))
  refine own_go (fun t_ k_ => XS.lushr A29.here hx rfl (hb hby at_40) rfl k_) ?_
  show own_Go _ _ _ _ (T28.setTop (mkF m 41 #[.val (.long q0), .second, .val (.int p1), .val (.int p2), .val (.int p3), .val (.ref b4), .unset, .unset, .unset, .unset, .unset, .unset] [(.long ((q0.toUInt64 >>> ((32 : Int32) &&& 0x3f).toInt64.toUInt64).toInt64)), (.int (2 : Int32)), (.ref b4)]))
  refine own_ldcJ A29 hx hZ hown (hw _ (List.mem_of_getElem? (i := 1) rfl)) rfl (hb hby at_41) ?_
  show own_Go _ _ _ _ (T28.setTop (mkF m 44 #[.val (.long q0), .second, .val (.int p1), .val (.int p2), .val (.int p3), .val (.ref b4), .unset, .unset, .unset, .unset, .unset, .unset] [(.long (65535 : Int64)), (.long ((q0.toUInt64 >>> ((32 : Int32) &&& 0x3f).toInt64.toUInt64).toInt64)), (.int (2 : Int32)), (.ref b4)]))
  refine own_go (fun t_ k_ => XS.land A29.here hx rfl (hb hby at_44) rfl k_) ?_
  show own_Go _ _ _ _ (T28.setTop (mkF m 45 #[.val (.long q0), .second, .val (.int p1), .val (.int p2), .val (.int p3), .val (.ref b4), .unset, .unset, .unset, .unset, .unset, .unset] [(.long (((q0.toUInt64 >>> ((32 : Int32) &&& 0x3f).toInt64.toUInt64).toInt64) &&& (65535 : Int64))), (.int (2 : Int32)), (.ref b4)]))
  refine own_go (fun t_ k_ => XS.l2i A29.here hx rfl (hb hby at_45) rfl k_) ?_
  show own_Go _ _ _ _ (T28.setTop (mkF m 46 #[.val (.long q0), .second, .val (.int p1), .val (.int p2), .val (.int p3), .val (.ref b4), .unset, .unset, .unset, .unset, .unset, .unset] [(.int ((((q0.toUInt64 >>> ((32 : Int32) &&& 0x3f).toInt64.toUInt64).toInt64) &&& (65535 : Int64)).toInt32)), (.int (2 : Int32)), (.ref b4)]))
  refine own_callS A29 hx hZ hown (y := (⟨"com/example/vestledger/vestledger/DigitsParsePinLaw", "draw", "(I)C"⟩ : MethodName)) (hw _ (List.mem_of_getElem? (i := 2) rfl)) (hw _ (List.mem_of_getElem? (i := 3) rfl)) (hw _ (List.mem_of_getElem? (i := 4) rfl)) (hw _ (List.mem_of_getElem? (i := 5) rfl)) (by decide) (argsL := [(.int ((((q0.toUInt64 >>> ((32 : Int32) &&& 0x3f).toInt64.toUInt64).toInt64) &&& (65535 : Int64)).toInt32))]) (rest := [(.int (2 : Int32)), (.ref b4)]) (rm1 l Z a0 hw ((((q0.toUInt64 >>> ((32 : Int32) &&& 0x3f).toInt64.toUInt64).toInt64) &&& (65535 : Int64)).toInt32) h30 n0 ) 2 (by decide) (by decide) rfl (by rw [hml]; rfl) (lenOf pd__I_C rfl) rfl (by show 2 * 0 + _ ≤ _; exact Nat.le_of_eq rfl) (hb hby at_46) (by decide) (by decide) (fun v39 T36 h38 A37 hQ40 => ?_)
  obtain ⟨rfl, rfl⟩ := hQ40
  show own_Go _ _ _ _ (T36.setTop (mkF m 49 #[.val (.long q0), .second, .val (.int p1), .val (.int p2), .val (.int p3), .val (.ref b4), .unset, .unset, .unset, .unset, .unset, .unset] [(.int (f1 ((((q0.toUInt64 >>> ((32 : Int32) &&& 0x3f).toInt64.toUInt64).toInt64) &&& (65535 : Int64)).toInt32))), (.int (2 : Int32)), (.ref b4)]))
  refine own_stC A37 hx hZ V35 ⟨by decide, by decide⟩ g_b4 rfl rfl (hb hby at_49) (fun T41 h43 A42 W44 V45 => ?_)
  have O46 : Old Z n0 h43 := O33.wr W44 g_b4
  have Z47 : n0 ≤ h43.size := Nat.le_trans Z34 (Nat.le_of_eq (Wr.size W44).symm)
  have V48 : own_Arr Z h43 b4 .char (5 : Int32) (fun i => if i = (2 : Int32) then nar .char (f1 ((((q0.toUInt64 >>> ((32 : Int32) &&& 0x3f).toInt64.toUInt64).toInt64) &&& (65535 : Int64)).toInt32)) else (fun i => if i = (1 : Int32) then nar .char (f1 ((((q0.toUInt64 >>> ((16 : Int32) &&& 0x3f).toInt64.toUInt64).toInt64) &&& (65535 : Int64)).toInt32)) else (fun i => if i = (0 : Int32) then nar .char (f1 ((q0 &&& (65535 : Int64)).toInt32)) else (fun _ => 0) i) i) i) := V45
  show own_Go _ _ _ _ (T41.setTop (mkF m 50 #[.val (.long q0), .second, .val (.int p1), .val (.int p2), .val (.int p3), .val (.ref b4), .unset, .unset, .unset, .unset, .unset, .unset] []))
  refine own_go (fun t_ k_ => XS.aload A42.here hx rfl (hb hby at_50) rfl rfl k_) ?_
  show own_Go _ _ _ _ (T41.setTop (mkF m 52 #[.val (.long q0), .second, .val (.int p1), .val (.int p2), .val (.int p3), .val (.ref b4), .unset, .unset, .unset, .unset, .unset, .unset] [(.ref b4)]))
  refine own_go (fun t_ k_ => XS.iconst A42.here hx rfl (hb hby at_52) k_) ?_
  show own_Go _ _ _ _ (T41.setTop (mkF m 53 #[.val (.long q0), .second, .val (.int p1), .val (.int p2), .val (.int p3), .val (.ref b4), .unset, .unset, .unset, .unset, .unset, .unset] [(.int (3 : Int32)), (.ref b4)]))
  refine own_go (fun t_ k_ => XS.lloadN A42.here hx rfl (hb hby at_53) rfl k_) ?_
  show own_Go _ _ _ _ (T41.setTop (mkF m 54 #[.val (.long q0), .second, .val (.int p1), .val (.int p2), .val (.int p3), .val (.ref b4), .unset, .unset, .unset, .unset, .unset, .unset] [(.long q0), (.int (3 : Int32)), (.ref b4)]))
  refine own_go (fun t_ k_ => XS.bipush A42.here hx rfl (hb hby at_54) k_) ?_
  show own_Go _ _ _ _ (T41.setTop (mkF m 56 #[.val (.long q0), .second, .val (.int p1), .val (.int p2), .val (.int p3), .val (.ref b4), .unset, .unset, .unset, .unset, .unset, .unset] [(.int (48 : Int32)), (.long q0), (.int (3 : Int32)), (.ref b4)]))
  refine own_go (fun t_ k_ => XS.lushr A42.here hx rfl (hb hby at_56) rfl k_) ?_
  show own_Go _ _ _ _ (T41.setTop (mkF m 57 #[.val (.long q0), .second, .val (.int p1), .val (.int p2), .val (.int p3), .val (.ref b4), .unset, .unset, .unset, .unset, .unset, .unset] [(.long ((q0.toUInt64 >>> ((48 : Int32) &&& 0x3f).toInt64.toUInt64).toInt64)), (.int (3 : Int32)), (.ref b4)]))
  refine own_ldcJ A42 hx hZ hown (hw _ (List.mem_of_getElem? (i := 1) rfl)) rfl (hb hby at_57) ?_
  show own_Go _ _ _ _ (T41.setTop (mkF m 60 #[.val (.long q0), .second, .val (.int p1), .val (.int p2), .val (.int p3), .val (.ref b4), .unset, .unset, .unset, .unset, .unset, .unset] [(.long (65535 : Int64)), (.long ((q0.toUInt64 >>> ((48 : Int32) &&& 0x3f).toInt64.toUInt64).toInt64)), (.int (3 : Int32)), (.ref b4)]))
  refine own_go (fun t_ k_ => XS.land A42.here hx rfl (hb hby at_60) rfl k_) ?_
  show own_Go _ _ _ _ (T41.setTop (mkF m 61 #[.val (.long q0), .second, .val (.int p1), .val (.int p2), .val (.int p3), .val (.ref b4), .unset, .unset, .unset, .unset, .unset, .unset] [(.long (((q0.toUInt64 >>> ((48 : Int32) &&& 0x3f).toInt64.toUInt64).toInt64) &&& (65535 : Int64))), (.int (3 : Int32)), (.ref b4)]))
  refine own_go (fun t_ k_ => XS.l2i A42.here hx rfl (hb hby at_61) rfl k_) ?_
  show own_Go _ _ _ _ (T41.setTop (mkF m 62 #[.val (.long q0), .second, .val (.int p1), .val (.int p2), .val (.int p3), .val (.ref b4), .unset, .unset, .unset, .unset, .unset, .unset] [(.int ((((q0.toUInt64 >>> ((48 : Int32) &&& 0x3f).toInt64.toUInt64).toInt64) &&& (65535 : Int64)).toInt32)), (.int (3 : Int32)), (.ref b4)]))
  refine own_callS A42 hx hZ hown (y := (⟨"com/example/vestledger/vestledger/DigitsParsePinLaw", "draw", "(I)C"⟩ : MethodName)) (hw _ (List.mem_of_getElem? (i := 2) rfl)) (hw _ (List.mem_of_getElem? (i := 3) rfl)) (hw _ (List.mem_of_getElem? (i := 4) rfl)) (hw _ (List.mem_of_getElem? (i := 5) rfl)) (by decide) (argsL := [(.int ((((q0.toUInt64 >>> ((48 : Int32) &&& 0x3f).toInt64.toUInt64).toInt64) &&& (65535 : Int64)).toInt32))]) (rest := [(.int (3 : Int32)), (.ref b4)]) (rm1 l Z a0 hw ((((q0.toUInt64 >>> ((48 : Int32) &&& 0x3f).toInt64.toUInt64).toInt64) &&& (65535 : Int64)).toInt32) h43 n0 ) 2 (by decide) (by decide) rfl (by rw [hml]; rfl) (lenOf pd__I_C rfl) rfl (by show 2 * 0 + _ ≤ _; exact Nat.le_of_eq rfl) (hb hby at_62) (by decide) (by decide) (fun v52 T49 h51 A50 hQ53 => ?_)
  obtain ⟨rfl, rfl⟩ := hQ53
  show own_Go _ _ _ _ (T49.setTop (mkF m 65 #[.val (.long q0), .second, .val (.int p1), .val (.int p2), .val (.int p3), .val (.ref b4), .unset, .unset, .unset, .unset, .unset, .unset] [(.int (f1 ((((q0.toUInt64 >>> ((48 : Int32) &&& 0x3f).toInt64.toUInt64).toInt64) &&& (65535 : Int64)).toInt32))), (.int (3 : Int32)), (.ref b4)]))
  refine own_stC A50 hx hZ V48 ⟨by decide, by decide⟩ g_b4 rfl rfl (hb hby at_65) (fun T54 h56 A55 W57 V58 => ?_)
  have O59 : Old Z n0 h56 := O46.wr W57 g_b4
  have Z60 : n0 ≤ h56.size := Nat.le_trans Z47 (Nat.le_of_eq (Wr.size W57).symm)
  have V61 : own_Arr Z h56 b4 .char (5 : Int32) (fun i => if i = (3 : Int32) then nar .char (f1 ((((q0.toUInt64 >>> ((48 : Int32) &&& 0x3f).toInt64.toUInt64).toInt64) &&& (65535 : Int64)).toInt32)) else (fun i => if i = (2 : Int32) then nar .char (f1 ((((q0.toUInt64 >>> ((32 : Int32) &&& 0x3f).toInt64.toUInt64).toInt64) &&& (65535 : Int64)).toInt32)) else (fun i => if i = (1 : Int32) then nar .char (f1 ((((q0.toUInt64 >>> ((16 : Int32) &&& 0x3f).toInt64.toUInt64).toInt64) &&& (65535 : Int64)).toInt32)) else (fun i => if i = (0 : Int32) then nar .char (f1 ((q0 &&& (65535 : Int64)).toInt32)) else (fun _ => 0) i) i) i) i) := V58
  show own_Go _ _ _ _ (T54.setTop (mkF m 66 #[.val (.long q0), .second, .val (.int p1), .val (.int p2), .val (.int p3), .val (.ref b4), .unset, .unset, .unset, .unset, .unset, .unset] []))
  refine own_go (fun t_ k_ => XS.aload A55.here hx rfl (hb hby at_66) rfl rfl k_) ?_
  show own_Go _ _ _ _ (T54.setTop (mkF m 68 #[.val (.long q0), .second, .val (.int p1), .val (.int p2), .val (.int p3), .val (.ref b4), .unset, .unset, .unset, .unset, .unset, .unset] [(.ref b4)]))
  refine own_go (fun t_ k_ => XS.iconst A55.here hx rfl (hb hby at_68) k_) ?_
  show own_Go _ _ _ _ (T54.setTop (mkF m 69 #[.val (.long q0), .second, .val (.int p1), .val (.int p2), .val (.int p3), .val (.ref b4), .unset, .unset, .unset, .unset, .unset, .unset] [(.int (4 : Int32)), (.ref b4)]))
  refine own_go (fun t_ k_ => XS.iloadN A55.here hx rfl (hb hby at_69) rfl k_) ?_
  show own_Go _ _ _ _ (T54.setTop (mkF m 70 #[.val (.long q0), .second, .val (.int p1), .val (.int p2), .val (.int p3), .val (.ref b4), .unset, .unset, .unset, .unset, .unset, .unset] [(.int p1), (.int (4 : Int32)), (.ref b4)]))
  refine own_ldcI A55 hx hZ hown (hw _ (List.mem_of_getElem? (i := 6) rfl)) rfl (hb hby at_70) ?_
  show own_Go _ _ _ _ (T54.setTop (mkF m 72 #[.val (.long q0), .second, .val (.int p1), .val (.int p2), .val (.int p3), .val (.ref b4), .unset, .unset, .unset, .unset, .unset, .unset] [(.int (65535 : Int32)), (.int p1), (.int (4 : Int32)), (.ref b4)]))
  refine own_go (fun t_ k_ => XS.iand A55.here hx rfl (hb hby at_72) rfl k_) ?_
  show own_Go _ _ _ _ (T54.setTop (mkF m 73 #[.val (.long q0), .second, .val (.int p1), .val (.int p2), .val (.int p3), .val (.ref b4), .unset, .unset, .unset, .unset, .unset, .unset] [(.int (p1 &&& (65535 : Int32))), (.int (4 : Int32)), (.ref b4)]))
  refine own_callS A55 hx hZ hown (y := (⟨"com/example/vestledger/vestledger/DigitsParsePinLaw", "draw", "(I)C"⟩ : MethodName)) (hw _ (List.mem_of_getElem? (i := 2) rfl)) (hw _ (List.mem_of_getElem? (i := 3) rfl)) (hw _ (List.mem_of_getElem? (i := 4) rfl)) (hw _ (List.mem_of_getElem? (i := 5) rfl)) (by decide) (argsL := [(.int (p1 &&& (65535 : Int32)))]) (rest := [(.int (4 : Int32)), (.ref b4)]) (rm1 l Z a0 hw (p1 &&& (65535 : Int32)) h56 n0 ) 2 (by decide) (by decide) rfl (by rw [hml]; rfl) (lenOf pd__I_C rfl) rfl (by show 2 * 0 + _ ≤ _; exact Nat.le_of_eq rfl) (hb hby at_73) (by decide) (by decide) (fun v65 T62 h64 A63 hQ66 => ?_)
  obtain ⟨rfl, rfl⟩ := hQ66
  show own_Go _ _ _ _ (T62.setTop (mkF m 76 #[.val (.long q0), .second, .val (.int p1), .val (.int p2), .val (.int p3), .val (.ref b4), .unset, .unset, .unset, .unset, .unset, .unset] [(.int (f1 (p1 &&& (65535 : Int32)))), (.int (4 : Int32)), (.ref b4)]))
  refine own_stC A63 hx hZ V61 ⟨by decide, by decide⟩ g_b4 rfl rfl (hb hby at_76) (fun T67 h69 A68 W70 V71 => ?_)
  have O72 : Old Z n0 h69 := O59.wr W70 g_b4
  have Z73 : n0 ≤ h69.size := Nat.le_trans Z60 (Nat.le_of_eq (Wr.size W70).symm)
  have V74 : own_Arr Z h69 b4 .char (5 : Int32) (fun i => if i = (4 : Int32) then nar .char (f1 (p1 &&& (65535 : Int32))) else (fun i => if i = (3 : Int32) then nar .char (f1 ((((q0.toUInt64 >>> ((48 : Int32) &&& 0x3f).toInt64.toUInt64).toInt64) &&& (65535 : Int64)).toInt32)) else (fun i => if i = (2 : Int32) then nar .char (f1 ((((q0.toUInt64 >>> ((32 : Int32) &&& 0x3f).toInt64.toUInt64).toInt64) &&& (65535 : Int64)).toInt32)) else (fun i => if i = (1 : Int32) then nar .char (f1 ((((q0.toUInt64 >>> ((16 : Int32) &&& 0x3f).toInt64.toUInt64).toInt64) &&& (65535 : Int64)).toInt32)) else (fun i => if i = (0 : Int32) then nar .char (f1 ((q0 &&& (65535 : Int64)).toInt32)) else (fun _ => 0) i) i) i) i) i) := V71
  show own_Go _ _ _ _ (T67.setTop (mkF m 77 #[.val (.long q0), .second, .val (.int p1), .val (.int p2), .val (.int p3), .val (.ref b4), .unset, .unset, .unset, .unset, .unset, .unset] []))
  obtain ⟨fc, hfc⟩ : ∃ fc : Int32 → Int32, fc = (fun i => if i = (4 : Int32) then nar .char (f1 (p1 &&& (65535 : Int32))) else (fun i => if i = (3 : Int32) then nar .char (f1 ((((q0.toUInt64 >>> ((48 : Int32) &&& 0x3f).toInt64.toUInt64).toInt64) &&& (65535 : Int64)).toInt32)) else (fun i => if i = (2 : Int32) then nar .char (f1 ((((q0.toUInt64 >>> ((32 : Int32) &&& 0x3f).toInt64.toUInt64).toInt64) &&& (65535 : Int64)).toInt32)) else (fun i => if i = (1 : Int32) then nar .char (f1 ((((q0.toUInt64 >>> ((16 : Int32) &&& 0x3f).toInt64.toUInt64).toInt64) &&& (65535 : Int64)).toInt32)) else (fun i => if i = (0 : Int32) then nar .char (f1 ((q0 &&& (65535 : Int64)).toInt32)) else (fun _ => 0) i) i) i) i) i) := ⟨_, rfl⟩
  have hp5 := own_hp fc hfc
  rw [← hfc] at V74
  refine own_newO A68 hx hZ hown (hw _ (List.mem_of_getElem? (i := 7) rfl)) (hw _ (List.mem_of_getElem? (i := 8) rfl)) (hw _ (List.mem_of_getElem? (i := 9) rfl)) rfl (hb hby at_77) (by decide) (by decide) (fun T75 h77 b78 ha_b78 A76 E79 X80 D81 => ?_)
  have ne_b4_b78 : b4 ≠ b78 := Nat.ne_of_lt (by rw [ha_b78]; exact V74.lt)
  have g_b78 : n0 ≤ b78 := by rw [ha_b78]; exact Z73
  have O82 : Old Z n0 h77 := O72.ext E79
  have Z83 : n0 ≤ h77.size := Nat.le_trans Z73 E79.1
  have V84 : own_Arr Z h77 b4 .char (5 : Int32) fc := V74.ext E79
  have F85 : Fld Z h77 b78 "java/lang/String" "coder" "B" (.int (0 : Int32)) := D81 (Or.inr (hw _ (List.mem_of_getElem? (i := 33) rfl))) (ty := .byte) (by decide)
  have F86 : Fld Z h77 b78 "java/lang/String" "value" "[B" .null := D81 (Or.inr (hw _ (List.mem_of_getElem? (i := 35) rfl))) (ty := (.array .byte)) (by decide)
  show own_Go _ _ _ _ (T75.setTop (mkF m 80 #[.val (.long q0), .second, .val (.int p1), .val (.int p2), .val (.int p3), .val (.ref b4), .unset, .unset, .unset, .unset, .unset, .unset] [(.ref b78)]))
  refine own_go (fun t_ k_ => XS.dup A76.here hx rfl (hb hby at_80) rfl rfl k_) ?_
  show own_Go _ _ _ _ (T75.setTop (mkF m 81 #[.val (.long q0), .second, .val (.int p1), .val (.int p2), .val (.int p3), .val (.ref b4), .unset, .unset, .unset, .unset, .unset, .unset] [(.ref b78), (.ref b78)]))
  refine own_go (fun t_ k_ => XS.aload A76.here hx rfl (hb hby at_81) rfl rfl k_) ?_
  show own_Go _ _ _ _ (T75.setTop (mkF m 83 #[.val (.long q0), .second, .val (.int p1), .val (.int p2), .val (.int p3), .val (.ref b4), .unset, .unset, .unset, .unset, .unset, .unset] [(.ref b4), (.ref b78), (.ref b78)]))
  refine own_callIB A76 hx hZ (y := (⟨"java/lang/String", "<init>", "([C)V"⟩ : MethodName)) rfl hown (hw _ (List.mem_of_getElem? (i := 10) rfl)) (hw _ (List.mem_of_getElem? (i := 11) rfl)) (hw _ (List.mem_of_getElem? (i := 12) rfl)) (by decide) (b := b78) (argsL := [(.ref b4)]) (rest := [(.ref b78)]) (own_newStr (n := 5) (W := 1) hZ (own_hws hw) (hw _ (List.mem_of_getElem? (i := 8) rfl)) g_b78 Z83 X80 F86 F85 V84 (S_C.ext O82.2) hz (by decide) (by decide) hp5 (by decide) (by decide)) rfl (by rw [hml]; rfl) (lenOf pd___C_V rfl) rfl (by show 2 * 0 + _ ≤ _; exact Nat.le_of_eq rfl) (hb hby at_83) (by decide) (by decide) (fun v90 T87 h89 A88 hQ91 => ?_)
  obtain ⟨rfl, K92, E93, F94, t95, gt96, nt97, F98, V99⟩ := hQ91
  have O100 : Old Z n0 h89 := O82.keep K92 (allS g_b78 all0)
  have Z101 : n0 ≤ h89.size := Nat.le_trans Z83 K92.1
  have V102 : own_Arr Z h89 b4 .char (5 : Int32) fc := V84.keep K92 (ninS ne_b4_b78 nin0)
  have E103 : Exa Z h89 b78 "java/lang/String" := X80.keep K92
  show own_Go _ _ _ _ (T87.setTop (mkF m 86 #[.val (.long q0), .second, .val (.int p1), .val (.int p2), .val (.int p3), .val (.ref b4), .unset, .unset, .unset, .unset, .unset, .unset] [(.ref b78)]))
  refine own_go (fun t_ k_ => XS.astore A88.here hx rfl (hb hby at_86) rfl rfl (l' := #[.val (.long q0), .second, .val (.int p1), .val (.int p2), .val (.int p3), .val (.ref b4), .val (.ref b78), .unset, .unset, .unset, .unset, .unset]) rfl k_) ?_
  show own_Go _ _ _ _ (T87.setTop (mkF m 88 #[.val (.long q0), .second, .val (.int p1), .val (.int p2), .val (.int p3), .val (.ref b4), .val (.ref b78), .unset, .unset, .unset, .unset, .unset] []))
  refine own_go (fun t_ k_ => XS.iloadN A88.here hx rfl (hb hby at_88) rfl k_) ?_
  show own_Go _ _ _ _ (T87.setTop (mkF m 89 #[.val (.long q0), .second, .val (.int p1), .val (.int p2), .val (.int p3), .val (.ref b4), .val (.ref b78), .unset, .unset, .unset, .unset, .unset] [(.int p2)]))
  refine own_ldcI A88 hx hZ hown (hw _ (List.mem_of_getElem? (i := 36) rfl)) rfl (hb hby at_89) ?_
  show own_Go _ _ _ _ (T87.setTop (mkF m 91 #[.val (.long q0), .second, .val (.int p1), .val (.int p2), .val (.int p3), .val (.ref b4), .val (.ref b78), .unset, .unset, .unset, .unset, .unset] [(.int (2147483647 : Int32)), (.int p2)]))
  refine own_go (fun t_ k_ => XS.iand A88.here hx rfl (hb hby at_91) rfl k_) ?_
  show own_Go _ _ _ _ (T87.setTop (mkF m 92 #[.val (.long q0), .second, .val (.int p1), .val (.int p2), .val (.int p3), .val (.ref b4), .val (.ref b78), .unset, .unset, .unset, .unset, .unset] [(.int (p2 &&& (2147483647 : Int32)))]))
  refine own_go (fun t_ k_ => XS.bipush A88.here hx rfl (hb hby at_92) k_) ?_
  show own_Go _ _ _ _ (T87.setTop (mkF m 94 #[.val (.long q0), .second, .val (.int p1), .val (.int p2), .val (.int p3), .val (.ref b4), .val (.ref b78), .unset, .unset, .unset, .unset, .unset] [(.int (6 : Int32)), (.int (p2 &&& (2147483647 : Int32)))]))
  refine own_go (fun t_ k_ => own_irem A88.here hx rfl (hb hby at_94) rfl (by decide) k_) ?_
  show own_Go _ _ _ _ (T87.setTop (mkF m 95 #[.val (.long q0), .second, .val (.int p1), .val (.int p2), .val (.int p3), .val (.ref b4), .val (.ref b78), .unset, .unset, .unset, .unset, .unset] [(.int ((p2 &&& (2147483647 : Int32)) % (6 : Int32)))]))
  obtain ⟨ia, hia, eia⟩ := own_from p2
  rw [eia]
  show own_Go _ _ _ _ (T87.setTop (mkF m 95 #[.val (.long q0), .second, .val (.int p1), .val (.int p2), .val (.int p3), .val (.ref b4), .val (.ref b78), .unset, .unset, .unset, .unset, .unset] [(.int (Int32.ofNat ia))]))
  refine own_go (fun t_ k_ => XS.istore A88.here hx rfl (hb hby at_95) rfl (l' := #[.val (.long q0), .second, .val (.int p1), .val (.int p2), .val (.int p3), .val (.ref b4), .val (.ref b78), .val (.int (Int32.ofNat ia)), .unset, .unset, .unset, .unset]) rfl k_) ?_
  show own_Go _ _ _ _ (T87.setTop (mkF m 97 #[.val (.long q0), .second, .val (.int p1), .val (.int p2), .val (.int p3), .val (.ref b4), .val (.ref b78), .val (.int (Int32.ofNat ia)), .unset, .unset, .unset, .unset] []))
  refine own_go (fun t_ k_ => XS.iload A88.here hx rfl (hb hby at_97) rfl k_) ?_
  show own_Go _ _ _ _ (T87.setTop (mkF m 99 #[.val (.long q0), .second, .val (.int p1), .val (.int p2), .val (.int p3), .val (.ref b4), .val (.ref b78), .val (.int (Int32.ofNat ia)), .unset, .unset, .unset, .unset] [(.int p3)]))
  refine own_ldcI A88 hx hZ hown (hw _ (List.mem_of_getElem? (i := 36) rfl)) rfl (hb hby at_99) ?_
  show own_Go _ _ _ _ (T87.setTop (mkF m 101 #[.val (.long q0), .second, .val (.int p1), .val (.int p2), .val (.int p3), .val (.ref b4), .val (.ref b78), .val (.int (Int32.ofNat ia)), .unset, .unset, .unset, .unset] [(.int (2147483647 : Int32)), (.int p3)]))
  refine own_go (fun t_ k_ => XS.iand A88.here hx rfl (hb hby at_101) rfl k_) ?_
  show own_Go _ _ _ _ (T87.setTop (mkF m 102 #[.val (.long q0), .second, .val (.int p1), .val (.int p2), .val (.int p3), .val (.ref b4), .val (.ref b78), .val (.int (Int32.ofNat ia)), .unset, .unset, .unset, .unset] [(.int (p3 &&& (2147483647 : Int32)))]))
  refine own_go (fun t_ k_ => XS.bipush A88.here hx rfl (hb hby at_102) k_) ?_
  show own_Go _ _ _ _ (T87.setTop (mkF m 104 #[.val (.long q0), .second, .val (.int p1), .val (.int p2), .val (.int p3), .val (.ref b4), .val (.ref b78), .val (.int (Int32.ofNat ia)), .unset, .unset, .unset, .unset] [(.int (6 : Int32)), (.int (p3 &&& (2147483647 : Int32)))]))
  refine own_go (fun t_ k_ => own_irem A88.here hx rfl (hb hby at_104) rfl (by decide) k_) ?_
  show own_Go _ _ _ _ (T87.setTop (mkF m 105 #[.val (.long q0), .second, .val (.int p1), .val (.int p2), .val (.int p3), .val (.ref b4), .val (.ref b78), .val (.int (Int32.ofNat ia)), .unset, .unset, .unset, .unset] [(.int ((p3 &&& (2147483647 : Int32)) % (6 : Int32)))]))
  obtain ⟨ib, hib, eib⟩ := own_from p3
  rw [eib]
  show own_Go _ _ _ _ (T87.setTop (mkF m 105 #[.val (.long q0), .second, .val (.int p1), .val (.int p2), .val (.int p3), .val (.ref b4), .val (.ref b78), .val (.int (Int32.ofNat ia)), .unset, .unset, .unset, .unset] [(.int (Int32.ofNat ib))]))
  obtain ⟨lo, hi, hlo, hhi, elo, ehi⟩ := own_mm ia ib hia hib
  refine own_go (fun t_ k_ => XS.istore A88.here hx rfl (hb hby at_105) rfl (l' := #[.val (.long q0), .second, .val (.int p1), .val (.int p2), .val (.int p3), .val (.ref b4), .val (.ref b78), .val (.int (Int32.ofNat ia)), .val (.int (Int32.ofNat ib)), .unset, .unset, .unset]) rfl k_) ?_
  show own_Go _ _ _ _ (T87.setTop (mkF m 107 #[.val (.long q0), .second, .val (.int p1), .val (.int p2), .val (.int p3), .val (.ref b4), .val (.ref b78), .val (.int (Int32.ofNat ia)), .val (.int (Int32.ofNat ib)), .unset, .unset, .unset] []))
  refine own_go (fun t_ k_ => XS.iload A88.here hx rfl (hb hby at_107) rfl k_) ?_
  show own_Go _ _ _ _ (T87.setTop (mkF m 109 #[.val (.long q0), .second, .val (.int p1), .val (.int p2), .val (.int p3), .val (.ref b4), .val (.ref b78), .val (.int (Int32.ofNat ia)), .val (.int (Int32.ofNat ib)), .unset, .unset, .unset] [(.int (Int32.ofNat ia))]))
  refine own_go (fun t_ k_ => XS.iload A88.here hx rfl (hb hby at_109) rfl k_) ?_
  show own_Go _ _ _ _ (T87.setTop (mkF m 111 #[.val (.long q0), .second, .val (.int p1), .val (.int p2), .val (.int p3), .val (.ref b4), .val (.ref b78), .val (.int (Int32.ofNat ia)), .val (.int (Int32.ofNat ib)), .unset, .unset, .unset] [(.int (Int32.ofNat ib)), (.int (Int32.ofNat ia))]))
  refine own_callS A88 hx hZ hown (y := (⟨"java/lang/Math", "min", "(II)I"⟩ : MethodName)) (hw _ (List.mem_of_getElem? (i := 37) rfl)) (hw _ (List.mem_of_getElem? (i := 38) rfl)) (hw _ (List.mem_of_getElem? (i := 39) rfl)) (hw _ (List.mem_of_getElem? (i := 40) rfl)) (by decide) (argsL := [(.int (Int32.ofNat ia)), (.int (Int32.ofNat ib))]) (rest := []) (rm8 l Z a0 hw (Int32.ofNat ia) (Int32.ofNat ib) h89 n0 ) 0 (by decide) (by decide) rfl (by rw [hml]; rfl) (lenOf pd__II_I rfl) rfl (by show 2 * 0 + _ ≤ _; exact Nat.le_of_eq rfl) (hb hby at_111) (by decide) (by decide) (fun v107 T104 h106 A105 hQ108 => ?_)
  obtain ⟨rfl, rfl⟩ := hQ108
  show own_Go _ _ _ _ (T104.setTop (mkF m 114 #[.val (.long q0), .second, .val (.int p1), .val (.int p2), .val (.int p3), .val (.ref b4), .val (.ref b78), .val (.int (Int32.ofNat ia)), .val (.int (Int32.ofNat ib)), .unset, .unset, .unset] [(.int (f8 (Int32.ofNat ia) (Int32.ofNat ib)))]))
  rw [elo]
  show own_Go _ _ _ _ (T104.setTop (mkF m 114 #[.val (.long q0), .second, .val (.int p1), .val (.int p2), .val (.int p3), .val (.ref b4), .val (.ref b78), .val (.int (Int32.ofNat ia)), .val (.int (Int32.ofNat ib)), .unset, .unset, .unset] [(.int (Int32.ofNat lo))]))
  refine own_go (fun t_ k_ => XS.istore A105.here hx rfl (hb hby at_114) rfl (l' := #[.val (.long q0), .second, .val (.int p1), .val (.int p2), .val (.int p3), .val (.ref b4), .val (.ref b78), .val (.int (Int32.ofNat ia)), .val (.int (Int32.ofNat ib)), .val (.int (Int32.ofNat lo)), .unset, .unset]) rfl k_) ?_
  show own_Go _ _ _ _ (T104.setTop (mkF m 116 #[.val (.long q0), .second, .val (.int p1), .val (.int p2), .val (.int p3), .val (.ref b4), .val (.ref b78), .val (.int (Int32.ofNat ia)), .val (.int (Int32.ofNat ib)), .val (.int (Int32.ofNat lo)), .unset, .unset] []))
  refine own_go (fun t_ k_ => XS.iload A105.here hx rfl (hb hby at_116) rfl k_) ?_
  show own_Go _ _ _ _ (T104.setTop (mkF m 118 #[.val (.long q0), .second, .val (.int p1), .val (.int p2), .val (.int p3), .val (.ref b4), .val (.ref b78), .val (.int (Int32.ofNat ia)), .val (.int (Int32.ofNat ib)), .val (.int (Int32.ofNat lo)), .unset, .unset] [(.int (Int32.ofNat ia))]))
  refine own_go (fun t_ k_ => XS.iload A105.here hx rfl (hb hby at_118) rfl k_) ?_
  show own_Go _ _ _ _ (T104.setTop (mkF m 120 #[.val (.long q0), .second, .val (.int p1), .val (.int p2), .val (.int p3), .val (.ref b4), .val (.ref b78), .val (.int (Int32.ofNat ia)), .val (.int (Int32.ofNat ib)), .val (.int (Int32.ofNat lo)), .unset, .unset] [(.int (Int32.ofNat ib)), (.int (Int32.ofNat ia))]))
  refine own_callS A105 hx hZ hown (y := (⟨"java/lang/Math", "max", "(II)I"⟩ : MethodName)) (hw _ (List.mem_of_getElem? (i := 41) rfl)) (hw _ (List.mem_of_getElem? (i := 42) rfl)) (hw _ (List.mem_of_getElem? (i := 39) rfl)) (hw _ (List.mem_of_getElem? (i := 43) rfl)) (by decide) (argsL := [(.int (Int32.ofNat ia)), (.int (Int32.ofNat ib))]) (rest := []) (rm9 l Z a0 hw (Int32.ofNat ia) (Int32.ofNat ib) h89 n0 ) 0 (by decide) (by decide) rfl (by rw [hml]; rfl) (lenOf pd__II_I rfl) rfl (by show 2 * 0 + _ ≤ _; exact Nat.le_of_eq rfl) (hb hby at_120) (by decide) (by decide) (fun v112 T109 h111 A110 hQ113 => ?_)
  obtain ⟨rfl, rfl⟩ := hQ113
  show own_Go _ _ _ _ (T109.setTop (mkF m 123 #[.val (.long q0), .second, .val (.int p1), .val (.int p2), .val (.int p3), .val (.ref b4), .val (.ref b78), .val (.int (Int32.ofNat ia)), .val (.int (Int32.ofNat ib)), .val (.int (Int32.ofNat lo)), .unset, .unset] [(.int (f9 (Int32.ofNat ia) (Int32.ofNat ib)))]))
  rw [ehi]
  show own_Go _ _ _ _ (T109.setTop (mkF m 123 #[.val (.long q0), .second, .val (.int p1), .val (.int p2), .val (.int p3), .val (.ref b4), .val (.ref b78), .val (.int (Int32.ofNat ia)), .val (.int (Int32.ofNat ib)), .val (.int (Int32.ofNat lo)), .unset, .unset] [(.int (Int32.ofNat hi))]))
  refine own_go (fun t_ k_ => XS.istore A110.here hx rfl (hb hby at_123) rfl (l' := #[.val (.long q0), .second, .val (.int p1), .val (.int p2), .val (.int p3), .val (.ref b4), .val (.ref b78), .val (.int (Int32.ofNat ia)), .val (.int (Int32.ofNat ib)), .val (.int (Int32.ofNat lo)), .val (.int (Int32.ofNat hi)), .unset]) rfl k_) ?_
  show own_Go _ _ _ _ (T109.setTop (mkF m 125 #[.val (.long q0), .second, .val (.int p1), .val (.int p2), .val (.int p3), .val (.ref b4), .val (.ref b78), .val (.int (Int32.ofNat ia)), .val (.int (Int32.ofNat ib)), .val (.int (Int32.ofNat lo)), .val (.int (Int32.ofNat hi)), .unset] []))
  refine own_go (fun t_ k_ => XS.aload A110.here hx rfl (hb hby at_125) rfl rfl k_) ?_
  show own_Go _ _ _ _ (T109.setTop (mkF m 127 #[.val (.long q0), .second, .val (.int p1), .val (.int p2), .val (.int p3), .val (.ref b4), .val (.ref b78), .val (.int (Int32.ofNat ia)), .val (.int (Int32.ofNat ib)), .val (.int (Int32.ofNat lo)), .val (.int (Int32.ofNat hi)), .unset] [(.ref b4)]))
  refine own_go (fun t_ k_ => XS.iload A110.here hx rfl (hb hby at_127) rfl k_) ?_
  show own_Go _ _ _ _ (T109.setTop (mkF m 129 #[.val (.long q0), .second, .val (.int p1), .val (.int p2), .val (.int p3), .val (.ref b4), .val (.ref b78), .val (.int (Int32.ofNat ia)), .val (.int (Int32.ofNat ib)), .val (.int (Int32.ofNat lo)), .val (.int (Int32.ofNat hi)), .unset] [(.int (Int32.ofNat lo)), (.ref b4)]))
  refine own_go (fun t_ k_ => XS.iload A110.here hx rfl (hb hby at_129) rfl k_) ?_
  show own_Go _ _ _ _ (T109.setTop (mkF m 131 #[.val (.long q0), .second, .val (.int p1), .val (.int p2), .val (.int p3), .val (.ref b4), .val (.ref b78), .val (.int (Int32.ofNat ia)), .val (.int (Int32.ofNat ib)), .val (.int (Int32.ofNat lo)), .val (.int (Int32.ofNat hi)), .unset] [(.int (Int32.ofNat hi)), (.int (Int32.ofNat lo)), (.ref b4)]))
  refine own_callS A110 hx hZ hown (y := (⟨"com/example/vestledger/vestledger/DigitsParsePinLaw", "reference", "([CII)I"⟩ : MethodName)) (hw _ (List.mem_of_getElem? (i := 44) rfl)) (hw _ (List.mem_of_getElem? (i := 45) rfl)) (hw _ (List.mem_of_getElem? (i := 4) rfl)) (hw _ (List.mem_of_getElem? (i := 46) rfl)) (by decide) (argsL := [(.ref b4), (.int (Int32.ofNat lo)), (.int (Int32.ofNat hi))]) (rest := []) (rm10 l Z a0 hw b4 (Int32.ofNat lo) (Int32.ofNat hi) fc h89 n0 V102 (own_nn (by omega)) (own_le5 hi hhi)) 0 (by decide) (by decide) rfl (by rw [hml]; rfl) (lenOf pd___CII_I rfl) rfl (by show 2 * 0 + _ ≤ _; exact Nat.le_of_eq rfl) (hb hby at_131) (by decide) (by decide) (fun v117 T114 h116 A115 hQ118 => ?_)
  obtain ⟨rfl, rfl⟩ := hQ118
  show own_Go _ _ _ _ (T114.setTop (mkF m 134 #[.val (.long q0), .second, .val (.int p1), .val (.int p2), .val (.int p3), .val (.ref b4), .val (.ref b78), .val (.int (Int32.ofNat ia)), .val (.int (Int32.ofNat ib)), .val (.int (Int32.ofNat lo)), .val (.int (Int32.ofNat hi)), .unset] [(.int (f10 (Int32.ofNat lo) (Int32.ofNat hi) fc))]))
  refine own_go (fun t_ k_ => XS.istore A115.here hx rfl (hb hby at_134) rfl (l' := #[.val (.long q0), .second, .val (.int p1), .val (.int p2), .val (.int p3), .val (.ref b4), .val (.ref b78), .val (.int (Int32.ofNat ia)), .val (.int (Int32.ofNat ib)), .val (.int (Int32.ofNat lo)), .val (.int (Int32.ofNat hi)), .val (.int (f10 (Int32.ofNat lo) (Int32.ofNat hi) fc))]) rfl k_) ?_
  show own_Go _ _ _ _ (T114.setTop (mkF m 136 #[.val (.long q0), .second, .val (.int p1), .val (.int p2), .val (.int p3), .val (.ref b4), .val (.ref b78), .val (.int (Int32.ofNat ia)), .val (.int (Int32.ofNat ib)), .val (.int (Int32.ofNat lo)), .val (.int (Int32.ofNat hi)), .val (.int (f10 (Int32.ofNat lo) (Int32.ofNat hi) fc))] []))
  refine own_go (fun t_ k_ => XS.aload A115.here hx rfl (hb hby at_136) rfl rfl k_) ?_
  show own_Go _ _ _ _ (T114.setTop (mkF m 138 #[.val (.long q0), .second, .val (.int p1), .val (.int p2), .val (.int p3), .val (.ref b4), .val (.ref b78), .val (.int (Int32.ofNat ia)), .val (.int (Int32.ofNat ib)), .val (.int (Int32.ofNat lo)), .val (.int (Int32.ofNat hi)), .val (.int (f10 (Int32.ofNat lo) (Int32.ofNat hi) fc))] [(.ref b78)]))
  refine own_go (fun t_ k_ => XS.iload A115.here hx rfl (hb hby at_138) rfl k_) ?_
  show own_Go _ _ _ _ (T114.setTop (mkF m 140 #[.val (.long q0), .second, .val (.int p1), .val (.int p2), .val (.int p3), .val (.ref b4), .val (.ref b78), .val (.int (Int32.ofNat ia)), .val (.int (Int32.ofNat ib)), .val (.int (Int32.ofNat lo)), .val (.int (Int32.ofNat hi)), .val (.int (f10 (Int32.ofNat lo) (Int32.ofNat hi) fc))] [(.int (Int32.ofNat lo)), (.ref b78)]))
  refine own_go (fun t_ k_ => XS.iload A115.here hx rfl (hb hby at_140) rfl k_) ?_
  show own_Go _ _ _ _ (T114.setTop (mkF m 142 #[.val (.long q0), .second, .val (.int p1), .val (.int p2), .val (.int p3), .val (.ref b4), .val (.ref b78), .val (.int (Int32.ofNat ia)), .val (.int (Int32.ofNat ib)), .val (.int (Int32.ofNat lo)), .val (.int (Int32.ofNat hi)), .val (.int (f10 (Int32.ofNat lo) (Int32.ofNat hi) fc))] [(.int (Int32.ofNat hi)), (.int (Int32.ofNat lo)), (.ref b78)]))
  refine own_callS A115 hx hZ hown (y := (⟨"com/example/vestledger/vestledger/Digits", "parse", "(Ljava/lang/String;II)I"⟩ : MethodName)) (hw _ (List.mem_of_getElem? (i := 53) rfl)) (hw _ (List.mem_of_getElem? (i := 54) rfl)) (hw _ (List.mem_of_getElem? (i := 55) rfl)) (hw _ (List.mem_of_getElem? (i := 56) rfl)) (by decide) (argsL := [(.ref b78), (.int (Int32.ofNat lo)), (.int (Int32.ofNat hi))]) (rest := []) (rm13 l Z a0 hw n0 lo hi b78 t95 (fun j => (fc j).toInt8.toInt32) z_C s_F h89 E93 F94 F98 V99 (S_C.ext O100.2) hz (S_F.ext O100.2) hr_F hlo hhi) 0 (by decide) (by decide) rfl (by rw [hml]; rfl) (lenOf pd__Ljava_lang_String_II_I rfl) rfl (by show 2 * 0 + _ ≤ _; exact Nat.le_of_eq rfl) (hb hby at_142) (by decide) (by decide) (fun v122 T119 h121 A120 hQ123 => ?_)
  obtain ⟨rfl, rfl⟩ := hQ123
  show own_Go _ _ _ _ (T119.setTop (mkF m 145 #[.val (.long q0), .second, .val (.int p1), .val (.int p2), .val (.int p3), .val (.ref b4), .val (.ref b78), .val (.int (Int32.ofNat ia)), .val (.int (Int32.ofNat ib)), .val (.int (Int32.ofNat lo)), .val (.int (Int32.ofNat hi)), .val (.int (f10 (Int32.ofNat lo) (Int32.ofNat hi) fc))] [(.int (own_parse (fun z => f14 z (fun j => (fc j).toInt8.toInt32) z_C s_F) (hi - lo) lo 0))]))
  refine own_go (fun t_ k_ => XS.iload A120.here hx rfl (hb hby at_145) rfl k_) ?_
  show own_Go _ _ _ _ (T119.setTop (mkF m 147 #[.val (.long q0), .second, .val (.int p1), .val (.int p2), .val (.int p3), .val (.ref b4), .val (.ref b78), .val (.int (Int32.ofNat ia)), .val (.int (Int32.ofNat ib)), .val (.int (Int32.ofNat lo)), .val (.int (Int32.ofNat hi)), .val (.int (f10 (Int32.ofNat lo) (Int32.ofNat hi) fc))] [(.int (f10 (Int32.ofNat lo) (Int32.ofNat hi) fc)), (.int (own_parse (fun z => f14 z (fun j => (fc j).toInt8.toInt32) z_C s_F) (hi - lo) lo 0))]))
  have hc124 : (own_parse (fun z => f14 z (fun j => (fc j).toInt8.toInt32) z_C s_F) (hi - lo) lo 0) = (f10 (Int32.ofNat lo) (Int32.ofNat hi) fc) := own_true fc z_C s_F hp5 lo hi hlo hhi
  refine own_go (fun t_ k_ => XS.icmpNo A120.here hx rfl (hb hby at_147) rfl (teq hc124).2 k_) ?_
  show own_Go _ _ _ _ (T119.setTop (mkF m 150 #[.val (.long q0), .second, .val (.int p1), .val (.int p2), .val (.int p3), .val (.ref b4), .val (.ref b78), .val (.int (Int32.ofNat ia)), .val (.int (Int32.ofNat ib)), .val (.int (Int32.ofNat lo)), .val (.int (Int32.ofNat hi)), .val (.int (f10 (Int32.ofNat lo) (Int32.ofNat hi) fc))] []))
  refine own_go (fun t_ k_ => XS.iconst A120.here hx rfl (hb hby at_150) k_) ?_
  show own_Go _ _ _ _ (T119.setTop (mkF m 151 #[.val (.long q0), .second, .val (.int p1), .val (.int p2), .val (.int p3), .val (.ref b4), .val (.ref b78), .val (.int (Int32.ofNat ia)), .val (.int (Int32.ofNat ib)), .val (.int (Int32.ofNat lo)), .val (.int (Int32.ofNat hi)), .val (.int (f10 (Int32.ofNat lo) (Int32.ofNat hi) fc))] [(.int (1 : Int32))]))
  refine own_go (fun t_ k_ => XS.goto A120.here hx rfl (pc0 := 151) (pc' := 155) rfl (hb hby at_151) (by decide) (by decide) k_) ?_
  show own_Go _ _ _ _ (T119.setTop (mkF m 155 #[.val (.long q0), .second, .val (.int p1), .val (.int p2), .val (.int p3), .val (.ref b4), .val (.ref b78), .val (.int (Int32.ofNat ia)), .val (.int (Int32.ofNat ib)), .val (.int (Int32.ofNat lo)), .val (.int (Int32.ofNat hi)), .val (.int (f10 (Int32.ofNat lo) (Int32.ofNat hi) fc))] [(.int (1 : Int32))]))
  refine own_retN A120 hx (t := .boolean) hret (by simp) hlk (by decide) (by decide) (hb hby at_155) ?_
  exact ⟨rfl, trivial⟩
set_option maxRecDepth 65536 in
set_option maxHeartbeats 40000000 in
theorem comes_1 {Post : Tables → Env → Array Value → State → Outcome → State → Prop} (hpost : ∀ tb e args s v u, (limb_1_1.after args s (.returned v) u = true ∧ limb_1_2.after args s (.returned v) u = true ∧ True) → FrameEnd s (.returned v) u (Jvm.fieldLocs frame_1_writes args s ++ Jvm.arrayLocs frame_1_arrays args s ++ Jvm.staticLocs frame_1_statics s) 16 128 → Post tb e args s (.returned v) u) :
    ArmFor flags0 classFile x code maxLocals ret World_1 tables_1 room_1 Calls_1 rest_1 Pre_1 Post := by
  intro l hfl _ _ p e ha hc hk s m args below hf hA hF happ hP
  obtain ⟨hcalls, hrest, hpre⟩ := hP
  obtain ⟨-, -, -, hnamed, -, -, -, hat⟩ := (Spec.applies_iff hf).mp happ
  obtain ⟨hg, hn⟩ := and_e (Cond.before_iff.mp (show (Jvm.Cond.and given_1 narrow_1).before args s = true from hpre))
  obtain ⟨gc, gr⟩ := and_e hg
  obtain ⟨w0, w1, w2, w3, rfl⟩ : ∃ w0 w1 w2 w3 : Value, args = #[w0, w1, w2, w3] := by
    have hs : args.size = 4 := by simpa [Cond.value, given_1] using gc
    obtain ⟨L⟩ := args
    match L, hs with
    | [w0, w1, w2, w3], _ => exact ⟨w0, w1, w2, w3, rfl⟩
  have hw := fun d (hd : d ∈ tables_1) => atoms_spec (ws := Jvm.Cond.code x code maxLocals ret :: tables_1) hat d (List.mem_cons_of_mem _ hd)
  have hfit : Fit s := fun {y c} hc i hi => by
    obtain ⟨ha, rfl⟩ := Array.getElem?_eq_some_iff.mp hc
    have q := List.all_eq_true.mp ((Array.all_eq_true_iff_forall_mem.mp hF) _ (Array.getElem_mem ha)) i (List.mem_range.mpr hi)
    simpa [Array.getElem?_eq_getElem hi] using q
  obtain ⟨q0, gr0⟩ := and_e gr
  obtain ⟨i0, ei0⟩ := isL_v q0
  obtain rfl : w0 = (.long i0) := Option.some.inj ei0
  obtain ⟨q1, gr1⟩ := and_e gr0
  obtain ⟨i1, ei1⟩ := is_v q1
  obtain rfl : w1 = (.int i1) := Option.some.inj ei1
  obtain ⟨q2, gr2⟩ := and_e gr1
  obtain ⟨i2, ei2⟩ := is_v q2
  obtain rfl : w2 = (.int i2) := Option.some.inj ei2
  obtain ⟨i3, ei3⟩ := is_v gr2
  obtain rfl : w3 = (.int i3) := Option.some.inj ei3
  obtain ⟨hsets, hown0⟩ := atoms_of _ (rest_1_c_eq ▸ (show rest_1_c.before _ s = true from hrest))
  obtain ⟨z_C, e_C⟩ := is_v (Cond.before_iff.mp (hsets _ (List.mem_of_getElem? (i := 1) rfl)))
  have S_C : Sta s s.heap "java/lang/String" "COMPACT_STRINGS" "Z" (.int z_C) := Sta.start e_C (Or.inl (hsets _ (List.mem_of_getElem? (i := 0) rfl)))
  have hz : ¬ (z_C = (0 : Int32)) := gotF (Cond.eq_ints e_C (Term.int_eval (0))) (not_v (Cond.before_iff.mp (hsets _ (List.mem_of_getElem? (i := 2) rfl))))
  obtain ⟨s_F, e_F, hr_F⟩ := isR_v (Cond.before_iff.mp (hsets _ (List.mem_of_getElem? (i := 8) rfl)))
  have S_F : Sta s s.heap "jdk/internal/util/Preconditions" "SIOOBE_FORMATTER" "Ljava/util/function/BiFunction;" s_F := Sta.start e_F (Or.inl (hsets _ (List.mem_of_getElem? (i := 7) rfl)))
  obtain ⟨n, o, h1, h2, h3, _, L, rfl, ⟨⟨rfl, hQ⟩, N⟩, hq⟩ := rm0 l s _ hw i0 i1 i2 i3 z_C s_F s.heap s.heap.size (Old.start s) (Nat.le_refl _) S_C hz S_F hr_F tables_1 p e ha hc hk s m _ below hf ((Spec.applies_iff_loose hf).mp happ).1 ⟨rfl, State.Warmed39.refl s, rfl⟩ trivial
  refine ⟨n, _, h1, h2, h3, hpost _ _ _ _ _ _ ⟨Cond.after_iff.mpr rfl, Cond.after_iff.mpr (eq_i res_at (Term.int_eval (1)) rfl), trivial⟩ ⟨hq.1, hq.2.1, (hq.2.2.sift fun y hy => Or.inr (N y hy)).mono (by decide) (by decide)⟩⟩
theorem main_1_1 : Claimed_1_1 := comes_1 fun _ _ _ _ _ _ h hF => ⟨h.1, hF⟩
theorem main_1_2 : Claimed_1_2 := comes_1 fun _ _ _ _ _ _ h hF => ⟨h.2.1, hF⟩
end Jvm.Pilot.@@N@@
namespace Jvm.Pilot.@@N@@
open Jvm Jvm.ClassFile Sem Op Lib Jvm.Free Jvm.Stand Jvm.Pilot.@@N@@.Jvm.D
/-! MADE BY PROGRAM (witnessworld.py) out of the Statement's table words and the real class files: 21 classes; the members and pool entries that the words name. The judged class is class 1, her method 1. -/
namespace start1
open Jvm.ClassFile
def u (s : String) : CpInfo := .utf8 (stringToUtf16 s)
/-- a pool by its gaps: so many unusable entries, then the entry; so many at the end -/
def gap : Nat → List CpInfo → List CpInfo
  | 0, r => r
  | n + 1, r => .unusable :: gap n r
def poolList (es : List (Nat × CpInfo)) (last : Nat) : List CpInfo := es.foldr (fun e r => gap e.1 (e.2 :: r)) (gap last [])
def pool (es : List (Nat × CpInfo)) (last : Nat) : Array CpInfo := ⟨poolList es last⟩
def fileOf (pool : Array CpInfo) (this : Nat) (attrs : Array Attribute := #[]) (ms : Array MethodInfo := #[]) (fl : Nat := 33) (sup : Nat := 0) (ifs : Array Nat := #[]) (fds : Array FieldInfo := #[]) : ClassFile where
  minorVersion := 0
  majorVersion := 65
  constantPool := pool
  accessFlags := fl
  thisClass := this
  superClass := sup
  interfaces := ifs
  fields := fds
  methods := ms
  attributes := attrs
def plain (name : String) (sup : Option ClassId) : Class where
  name := name
  kind := .ordinary
  loader := none
  accessFlags := 33
  super := sup
  interfaces := #[]
  cf := none
  fields := #[]
  methods := #[]
  instanceTypes := #[]
  staticTypes := #[]
  resolved := #[]
  callSites := []
  init := .initialized
  statics := none
  mirror := none

def pool0 : Array CpInfo := pool [(5, u "<init>"), (0, u "()V"), (1, .class_ 10), (1, u "java/lang/Object")] 113

def k0c0 : Code := { maxStack := 0, maxLocals := 1, code := object_method_1_code, exceptionTable := #[], attributes := #[] }
def k0m0 : Method := { name := "<init>", desc := "()V", sig := { parameters := [], returnType := none }, accessFlags := 1, code := some k0c0 }
/-- java/lang/Object -/
def k0 : Class := { plain "java/lang/Object" none with
  accessFlags := 33
  interfaces := #[]
  cf := some (fileOf pool0 8 #[] #[{ accessFlags := 1, nameIndex := 5, descriptorIndex := 6, attributes := #[] }] 33 0 #[] #[])
  fields := #[]
  methods := #[k0m0]
  instanceTypes := #[]
  staticTypes := #[]
  resolved := Array.replicate 124 none
  statics := none }

def pool1 : Array CpInfo := pool [(2, .class_ 4), (1, u "java/lang/Object"), (0, u "<init>"), (0, u "()V"), (0, .long 65535), (1, .methodref 10 11), (0, .class_ 12), (0, .nameAndType 13 14), (0, u "com/example/vestledger/vestledger/DigitsParsePinLaw"), (0, u "draw"), (0, u "(I)C"), (0, .integer 65535), (0, .class_ 17), (0, u "java/lang/String"), (0, .methodref 16 19), (0, .nameAndType 5 20), (0, u "([C)V"), (0, .integer 2147483647), (0, .methodref 23 24), (0, .class_ 25), (0, .nameAndType 26 27), (0, u "java/lang/Math"), (0, u "min"), (0, u "(II)I"), (0, .methodref 23 29), (0, .nameAndType 30 27), (0, u "max"), (0, .methodref 10 32), (0, .nameAndType 33 34), (0, u "reference"), (0, u "([CII)I"), (0, .methodref 36 37), (0, .class_ 38), (0, .nameAndType 39 40), (0, u "com/example/vestledger/vestledger/Digits"), (0, u "parse"), (0, u "(Ljava/lang/String;II)I"), (0, .methodref 10 42), (0, .nameAndType 43 44), (0, u "digitValue"), (0, u "(C)I"), (0, .methodref 10 46), (0, .nameAndType 47 48), (0, u "pow10"), (0, u "(I)I"), (0, .methodref 10 50), (0, .nameAndType 51 52), (0, u "term"), (0, u "([CIII)I"), (2, u "law"), (0, u "(JIII)Z")] 5

def k1m0 : Method := { name := "<init>", desc := "()V", sig := { parameters := [], returnType := none }, accessFlags := 2, code := none }
def k1c1 : Code := { maxStack := 6, maxLocals := 12, code := code, exceptionTable := #[], attributes := #[] }
def k1m1 : Method := { name := "law", desc := "(JIII)Z", sig := { parameters := [.long, .int, .int, .int], returnType := some .boolean }, accessFlags := 9, code := some k1c1 }
def k1c2 : Code := { maxStack := 3, maxLocals := 1, code := method_3_code, exceptionTable := #[], attributes := #[] }
def k1m2 : Method := { name := "draw", desc := "(I)C", sig := { parameters := [.int], returnType := some .char }, accessFlags := 10, code := some k1c2 }
def k1c3 : Code := { maxStack := 2, maxLocals := 1, code := method_4_code, exceptionTable := #[], attributes := #[] }
def k1m3 : Method := { name := "digitValue", desc := "(C)I", sig := { parameters := [.char], returnType := some .int }, accessFlags := 10, code := some k1c3 }
def k1c4 : Code := { maxStack := 2, maxLocals := 1, code := method_5_code, exceptionTable := #[], attributes := #[] }
def k1m4 : Method := { name := "pow10", desc := "(I)I", sig := { parameters := [.int], returnType := some .int }, accessFlags := 10, code := some k1c4 }
def k1c5 : Code := { maxStack := 3, maxLocals := 5, code := method_6_code, exceptionTable := #[], attributes := #[] }
def k1m5 : Method := { name := "term", desc := "([CIII)I", sig := { parameters := [(.array .char), .int, .int, .int], returnType := some .int }, accessFlags := 10, code := some k1c5 }
def k1c6 : Code := { maxStack := 4, maxLocals := 8, code := method_7_code, exceptionTable := #[], attributes := #[] }
def k1m6 : Method := { name := "reference", desc := "([CII)I", sig := { parameters := [(.array .char), .int, .int], returnType := some .int }, accessFlags := 10, code := some k1c6 }
/-- com/example/vestledger/vestledger/DigitsParsePinLaw -/
def k1 : Class := { plain "com/example/vestledger/vestledger/DigitsParsePinLaw" (some 0) with
  accessFlags := 49
  interfaces := #[]
  cf := some (fileOf pool1 10 #[] #[{ accessFlags := 2, nameIndex := 5, descriptorIndex := 6, attributes := #[] }, { accessFlags := 9, nameIndex := 55, descriptorIndex := 56, attributes := #[] }, { accessFlags := 10, nameIndex := 13, descriptorIndex := 14, attributes := #[] }, { accessFlags := 10, nameIndex := 43, descriptorIndex := 44, attributes := #[] }, { accessFlags := 10, nameIndex := 47, descriptorIndex := 48, attributes := #[] }, { accessFlags := 10, nameIndex := 51, descriptorIndex := 52, attributes := #[] }, { accessFlags := 10, nameIndex := 33, descriptorIndex := 34, attributes := #[] }] 49 2 #[] #[])
  fields := #[]
  methods := #[k1m0, k1m1, k1m2, k1m3, k1m4, k1m5, k1m6]
  instanceTypes := #[]
  staticTypes := #[]
  resolved := Array.replicate 62 none
  statics := none }

def pool2 : Array CpInfo := pool [(1, .class_ 2), (0, u "java/io/Serializable"), (0, .class_ 4), (0, u "java/lang/Object")] 2

/-- java/io/Serializable -/
def k2 : Class := { plain "java/io/Serializable" (some 0) with
  accessFlags := 1537
  interfaces := #[]
  cf := some (fileOf pool2 1 #[] #[] 1537 3 #[] #[])
  fields := #[]
  methods := #[]
  instanceTypes := #[]
  staticTypes := #[]
  resolved := Array.replicate 7 none
  statics := none }

def pool3 : Array CpInfo := pool [(1, .class_ 2), (0, u "java/lang/Comparable"), (0, .class_ 4), (0, u "java/lang/Object")] 7

/-- java/lang/Comparable -/
def k3 : Class := { plain "java/lang/Comparable" (some 0) with
  accessFlags := 1537
  interfaces := #[]
  cf := some (fileOf pool3 1 #[] #[] 1537 3 #[] #[])
  fields := #[]
  methods := #[]
  instanceTypes := #[]
  staticTypes := #[]
  resolved := Array.replicate 12 none
  statics := none }

def pool4 : Array CpInfo := pool [(2, .class_ 4), (1, u "java/lang/CharSequence"), (42, .class_ 48), (0, u "java/lang/CharSequence$1CodePointIterator"), (10, .class_ 60), (0, u "java/lang/CharSequence$1CharIterator"), (5, .class_ 67), (0, u "java/lang/Object")] 63

/-- java/lang/CharSequence -/
def k4 : Class := { plain "java/lang/CharSequence" (some 0) with
  accessFlags := 1537
  interfaces := #[]
  cf := some (fileOf pool4 2 #[.nestMembers #[47, 59]] #[] 1537 66 #[] #[])
  fields := #[]
  methods := #[]
  instanceTypes := #[]
  staticTypes := #[]
  resolved := Array.replicate 131 none
  statics := none }

def pool5 : Array CpInfo := pool [(1, .class_ 2), (0, u "java/lang/constant/Constable"), (0, .class_ 4), (0, u "java/lang/Object")] 6

/-- java/lang/constant/Constable -/
def k5 : Class := { plain "java/lang/constant/Constable" (some 0) with
  accessFlags := 1537
  interfaces := #[]
  cf := some (fileOf pool5 1 #[] #[] 1537 3 #[] #[])
  fields := #[]
  methods := #[]
  instanceTypes := #[]
  staticTypes := #[]
  resolved := Array.replicate 11 none
  statics := none }

def pool6 : Array CpInfo := pool [(1, .class_ 2), (0, u "java/lang/constant/ConstantDesc"), (0, .class_ 4), (0, u "java/lang/Object")] 32

/-- java/lang/constant/ConstantDesc -/
def k6 : Class := { plain "java/lang/constant/ConstantDesc" (some 0) with
  accessFlags := 1537
  interfaces := #[]
  cf := some (fileOf pool6 1 #[] #[] 1537 3 #[] #[])
  fields := #[]
  methods := #[]
  instanceTypes := #[]
  staticTypes := #[]
  resolved := Array.replicate 37 none
  statics := none }

def pool7 : Array CpInfo := pool [(1, .methodref 2 3), (0, .class_ 4), (0, .nameAndType 5 6), (0, u "java/lang/Object"), (0, u "<init>"), (0, u "()V"), (2, .fieldref 10 11), (0, .class_ 12), (0, .nameAndType 13 14), (0, u "java/lang/String"), (0, u "value"), (0, u "[B"), (0, .fieldref 10 16), (0, .nameAndType 17 18), (0, u "coder"), (0, u "B"), (2, u "hash"), (0, u "I"), (2, u "hashIsZero"), (0, u "Z"), (0, .methodref 10 28), (0, .nameAndType 5 29), (0, u "([CIILjava/lang/Void;)V"), (8, .fieldref 10 39), (0, .nameAndType 40 26), (0, u "COMPACT_STRINGS"), (1, .class_ 44), (1, u "java/lang/StringUTF16"), (0, u "compress"), (1, .methodref 42 48), (0, .nameAndType 49 50), (0, u "coderFromArrayLen"), (0, u "([BI)B"), (56, .class_ 109), (1, u "java/lang/StringLatin1"), (32, u "()Z"), (34, .methodref 42 178), (0, .nameAndType 45 179), (0, u "([CII)[B"), (183, u "([BI)C"), (27, u "(II)V"), (35, u "(I)C"), (64, .methodref 10 493), (0, .nameAndType 494 142), (0, u "isLatin1"), (0, .methodref 107 496), (0, .nameAndType 497 363), (0, u "charAt"), (3, u "checkIndex"), (73, .class_ 576), (0, u "java/lang/CharSequence"), (22, u "CASE_INSENSITIVE_ORDER"), (0, u "Ljava/util/Comparator;"), (409, u "([C)V"), (42, .fieldref 1054 1055), (0, .class_ 1056), (0, .nameAndType 1057 1058), (0, u "jdk/internal/util/Preconditions"), (0, u "SIOOBE_FORMATTER"), (0, u "Ljava/util/function/BiFunction;"), (0, .methodref 1054 1060), (0, .nameAndType 501 1061), (0, u "(IILjava/util/function/BiFunction;)I"), (39, u "serialPersistentFields"), (0, u "[Ljava/io/ObjectStreamField;"), (0, .class_ 1104), (0, u "java/lang/String$CaseInsensitiveComparator"), (1, .class_ 1107), (0, u "java/io/Serializable"), (0, .class_ 1109), (0, u "java/lang/Comparable"), (0, .class_ 1111), (0, u "java/lang/constant/Constable"), (0, .class_ 1113), (0, u "java/lang/constant/ConstantDesc"), (2, u "serialVersionUID"), (0, u "J"), (3, u "REPL"), (0, u "C"), (2, u "LATIN1"), (1, u "UTF16")] 323

def k7m0 : Method := { name := "<init>", desc := "()V", sig := { parameters := [], returnType := none }, accessFlags := 1, code := none }
def k7c1 : Code := { maxStack := 5, maxLocals := 2, code := jdk_42_method_3_code, exceptionTable := #[], attributes := #[] }
def k7m1 : Method := { name := "<init>", desc := "([C)V", sig := { parameters := [(.array .char)], returnType := none }, accessFlags := 1, code := some k7c1 }
def k7c2 : Code := { maxStack := 2, maxLocals := 2, code := jdk_42_method_56_code, exceptionTable := #[], attributes := #[] }
def k7m2 : Method := { name := "charAt", desc := "(I)C", sig := { parameters := [.int], returnType := some .char }, accessFlags := 1, code := some k7c2 }
def k7c3 : Code := { maxStack := 4, maxLocals := 6, code := jdk_42_method_149_code, exceptionTable := #[], attributes := #[] }
def k7m3 : Method := { name := "<init>", desc := "([CIILjava/lang/Void;)V", sig := { parameters := [(.array .char), .int, .int, (.object "java/lang/Void")], returnType := none }, accessFlags := 2, code := some k7c3 }
def k7c4 : Code := { maxStack := 1, maxLocals := 1, code := jdk_42_method_154_code, exceptionTable := #[], attributes := #[] }
def k7m4 : Method := { name := "isLatin1", desc := "()Z", sig := { parameters := [], returnType := some .boolean }, accessFlags := 0, code := some k7c4 }
def k7c5 : Code := { maxStack := 3, maxLocals := 2, code := jdk_42_method_155_code, exceptionTable := #[], attributes := #[] }
def k7m5 : Method := { name := "checkIndex", desc := "(II)V", sig := { parameters := [.int, .int], returnType := none }, accessFlags := 8, code := some k7c5 }
/-- java/lang/String -/
def k7 : Class := { plain "java/lang/String" (some 0) with
  accessFlags := 49
  interfaces := #[2, 3, 4, 5, 6]
  cf := some (fileOf pool7 10 #[.nestMembers #[1103]] #[{ accessFlags := 1, nameIndex := 5, descriptorIndex := 6, attributes := #[] }, { accessFlags := 1, nameIndex := 5, descriptorIndex := 1010, attributes := #[] }, { accessFlags := 1, nameIndex := 497, descriptorIndex := 427, attributes := #[] }, { accessFlags := 2, nameIndex := 5, descriptorIndex := 29, attributes := #[] }, { accessFlags := 0, nameIndex := 494, descriptorIndex := 142, attributes := #[] }, { accessFlags := 8, nameIndex := 501, descriptorIndex := 391, attributes := #[] }] 49 2 #[1106, 1108, 575, 1110, 1112] #[{ accessFlags := 18, nameIndex := 13, descriptorIndex := 14, attributes := #[] }, { accessFlags := 18, nameIndex := 17, descriptorIndex := 18, attributes := #[] }, { accessFlags := 2, nameIndex := 21, descriptorIndex := 22, attributes := #[] }, { accessFlags := 2, nameIndex := 25, descriptorIndex := 26, attributes := #[] }, { accessFlags := 26, nameIndex := 1116, descriptorIndex := 1117, attributes := #[] }, { accessFlags := 24, nameIndex := 40, descriptorIndex := 26, attributes := #[] }, { accessFlags := 26, nameIndex := 1101, descriptorIndex := 1102, attributes := #[] }, { accessFlags := 26, nameIndex := 1121, descriptorIndex := 1122, attributes := #[] }, { accessFlags := 25, nameIndex := 599, descriptorIndex := 600, attributes := #[] }, { accessFlags := 24, nameIndex := 1125, descriptorIndex := 18, attributes := #[] }, { accessFlags := 24, nameIndex := 1127, descriptorIndex := 18, attributes := #[] }])
  fields := #[{ name := "value", type := (.array .byte), accessFlags := 18, slot := 0, constantValue := 0 }, { name := "coder", type := .byte, accessFlags := 18, slot := 1, constantValue := 0 }, { name := "hash", type := .int, accessFlags := 2, slot := 2, constantValue := 0 }, { name := "hashIsZero", type := .boolean, accessFlags := 2, slot := 3, constantValue := 0 }, { name := "serialVersionUID", type := .long, accessFlags := 26, slot := 0, constantValue := 0 }, { name := "COMPACT_STRINGS", type := .boolean, accessFlags := 24, slot := 1, constantValue := 0 }, { name := "serialPersistentFields", type := (.array (.object "java/io/ObjectStreamField")), accessFlags := 26, slot := 2, constantValue := 0 }, { name := "REPL", type := .char, accessFlags := 26, slot := 3, constantValue := 0 }, { name := "CASE_INSENSITIVE_ORDER", type := (.object "java/util/Comparator"), accessFlags := 25, slot := 4, constantValue := 0 }, { name := "LATIN1", type := .byte, accessFlags := 24, slot := 5, constantValue := 0 }, { name := "UTF16", type := .byte, accessFlags := 24, slot := 6, constantValue := 0 }]
  methods := #[k7m0, k7m1, k7m2, k7m3, k7m4, k7m5]
  instanceTypes := #[(.array .byte), .byte, .int, .boolean]
  staticTypes := #[.long, .boolean, (.array (.object "java/io/ObjectStreamField")), .char, (.object "java/util/Comparator"), .byte, .byte]
  resolved := Array.replicate 1451 none
  statics := some 0 }

def pool8 : Array CpInfo := pool [(6, .class_ 8), (1, u "java/lang/Object"), (0, u "<init>"), (0, u "()V"), (1, .class_ 14), (1, u "java/lang/StringUTF16"), (31, u "$assertionsDisabled"), (0, u "Z"), (13, u "HI_BYTE_SHIFT"), (0, u "I"), (2, u "LO_BYTE_SHIFT"), (49, .methodref 12 116), (0, .nameAndType 117 118), (0, u "compress"), (0, u "([CI[BII)I"), (3, u "([CII)[B"), (138, u "coderFromArrayLen"), (0, u "([BI)B"), (106, .class_ 371), (1, u "java/lang/StringUTF16$LinesSpliterator"), (58, u "MAX_LENGTH"), (196, .class_ 628), (0, u "java/lang/StringUTF16$CodePointsSpliterator"), (0, .class_ 630), (0, u "java/lang/StringUTF16$CharsSpliterator")] 4

def k8m0 : Method := { name := "<init>", desc := "()V", sig := { parameters := [], returnType := none }, accessFlags := 0, code := none }
def k8c1 : Code := { maxStack := 2, maxLocals := 2, code := jdk_52_method_15_code, exceptionTable := #[], attributes := #[] }
def k8m1 : Method := { name := "coderFromArrayLen", desc := "([BI)B", sig := { parameters := [(.array .byte), .int], returnType := some .byte }, accessFlags := 8, code := some k8c1 }
def k8c2 : Code := { maxStack := 5, maxLocals := 6, code := jdk_52_method_16_code, exceptionTable := #[], attributes := #[] }
def k8m2 : Method := { name := "compress", desc := "([CII)[B", sig := { parameters := [(.array .char), .int, .int], returnType := some (.array .byte) }, accessFlags := 9, code := some k8c2 }
def k8c3 : Code := { maxStack := 3, maxLocals := 7, code := jdk_52_method_21_code, exceptionTable := #[], attributes := #[] }
def k8m3 : Method := { name := "compress", desc := "([CI[BII)I", sig := { parameters := [(.array .char), .int, (.array .byte), .int, .int], returnType := some .int }, accessFlags := 9, code := some k8c3 }
/-- java/lang/StringUTF16 -/
def k8 : Class := { plain "java/lang/StringUTF16" (some 0) with
  accessFlags := 48
  interfaces := #[]
  cf := some (fileOf pool8 12 #[.nestMembers #[627, 629, 369]] #[{ accessFlags := 0, nameIndex := 9, descriptorIndex := 10, attributes := #[] }, { accessFlags := 8, nameIndex := 261, descriptorIndex := 262, attributes := #[] }, { accessFlags := 9, nameIndex := 117, descriptorIndex := 122, attributes := #[] }, { accessFlags := 9, nameIndex := 117, descriptorIndex := 118, attributes := #[] }] 48 6 #[] #[{ accessFlags := 26, nameIndex := 61, descriptorIndex := 62, attributes := #[] }, { accessFlags := 26, nameIndex := 65, descriptorIndex := 62, attributes := #[] }, { accessFlags := 24, nameIndex := 430, descriptorIndex := 62, attributes := #[] }, { accessFlags := 4120, nameIndex := 46, descriptorIndex := 47, attributes := #[] }])
  fields := #[{ name := "HI_BYTE_SHIFT", type := .int, accessFlags := 26, slot := 0, constantValue := 0 }, { name := "LO_BYTE_SHIFT", type := .int, accessFlags := 26, slot := 1, constantValue := 0 }, { name := "MAX_LENGTH", type := .int, accessFlags := 24, slot := 2, constantValue := 0 }, { name := "$assertionsDisabled", type := .boolean, accessFlags := 4120, slot := 3, constantValue := 0 }]
  methods := #[k8m0, k8m1, k8m2, k8m3]
  instanceTypes := #[]
  staticTypes := #[.int, .int, .int, .boolean]
  resolved := Array.replicate 635 none
  statics := none }

def pool9 : Array CpInfo := pool [(1, .class_ 2), (0, u "java/lang/Math"), (1, .class_ 6), (1, u "java/lang/Object"), (0, u "<init>"), (0, u "()V"), (89, .class_ 100), (1, u "java/lang/Math$RandomNumberGeneratorHolder"), (71, u "negativeZeroFloatBits"), (0, u "J"), (2, u "negativeZeroDoubleBits"), (21, u "max"), (2, u "min"), (43, u "$assertionsDisabled"), (0, u "Z"), (88, u "(II)I"), (2, u "twoToTheDoubleScaleDown"), (0, u "D"), (4, u "twoToTheDoubleScaleUp"), (9, u "E"), (3, u "PI"), (2, u "TAU"), (2, u "DEGREES_TO_RADIANS"), (0, u "RADIANS_TO_DEGREES")] 94

def k9m0 : Method := { name := "<init>", desc := "()V", sig := { parameters := [], returnType := none }, accessFlags := 2, code := none }
def k9c1 : Code := { maxStack := 2, maxLocals := 2, code := jdk_29_method_65_code, exceptionTable := #[], attributes := #[] }
def k9m1 : Method := { name := "max", desc := "(II)I", sig := { parameters := [.int, .int], returnType := some .int }, accessFlags := 9, code := some k9c1 }
def k9c2 : Code := { maxStack := 2, maxLocals := 2, code := jdk_29_method_69_code, exceptionTable := #[], attributes := #[] }
def k9m2 : Method := { name := "min", desc := "(II)I", sig := { parameters := [.int, .int], returnType := some .int }, accessFlags := 9, code := some k9c2 }
/-- java/lang/Math -/
def k9 : Class := { plain "java/lang/Math" (some 0) with
  accessFlags := 49
  interfaces := #[]
  cf := some (fileOf pool9 1 #[.nestMembers #[98]] #[{ accessFlags := 2, nameIndex := 7, descriptorIndex := 8, attributes := #[] }, { accessFlags := 9, nameIndex := 198, descriptorIndex := 335, attributes := #[] }, { accessFlags := 9, nameIndex := 201, descriptorIndex := 335, attributes := #[] }] 49 4 #[] #[{ accessFlags := 25, nameIndex := 354, descriptorIndex := 339, attributes := #[] }, { accessFlags := 25, nameIndex := 358, descriptorIndex := 339, attributes := #[] }, { accessFlags := 25, nameIndex := 361, descriptorIndex := 339, attributes := #[] }, { accessFlags := 26, nameIndex := 364, descriptorIndex := 339, attributes := #[] }, { accessFlags := 26, nameIndex := 365, descriptorIndex := 339, attributes := #[] }, { accessFlags := 26, nameIndex := 172, descriptorIndex := 173, attributes := #[] }, { accessFlags := 26, nameIndex := 176, descriptorIndex := 173, attributes := #[] }, { accessFlags := 8, nameIndex := 344, descriptorIndex := 339, attributes := #[] }, { accessFlags := 8, nameIndex := 338, descriptorIndex := 339, attributes := #[] }, { accessFlags := 4120, nameIndex := 245, descriptorIndex := 246, attributes := #[] }])
  fields := #[{ name := "E", type := .double, accessFlags := 25, slot := 0, constantValue := 0 }, { name := "PI", type := .double, accessFlags := 25, slot := 1, constantValue := 0 }, { name := "TAU", type := .double, accessFlags := 25, slot := 2, constantValue := 0 }, { name := "DEGREES_TO_RADIANS", type := .double, accessFlags := 26, slot := 3, constantValue := 0 }, { name := "RADIANS_TO_DEGREES", type := .double, accessFlags := 26, slot := 4, constantValue := 0 }, { name := "negativeZeroFloatBits", type := .long, accessFlags := 26, slot := 5, constantValue := 0 }, { name := "negativeZeroDoubleBits", type := .long, accessFlags := 26, slot := 6, constantValue := 0 }, { name := "twoToTheDoubleScaleUp", type := .double, accessFlags := 8, slot := 7, constantValue := 0 }, { name := "twoToTheDoubleScaleDown", type := .double, accessFlags := 8, slot := 8, constantValue := 0 }, { name := "$assertionsDisabled", type := .boolean, accessFlags := 4120, slot := 9, constantValue := 0 }]
  methods := #[k9m0, k9m1, k9m2]
  instanceTypes := #[]
  staticTypes := #[.double, .double, .double, .double, .double, .long, .long, .double, .double, .boolean]
  resolved := Array.replicate 460 none
  statics := none }

def pool10 : Array CpInfo := pool [(2, .class_ 4), (1, u "java/lang/Object"), (0, u "<init>"), (0, u "()V"), (0, .methodref 8 9), (0, .class_ 10), (0, .nameAndType 11 12), (0, u "java/lang/String"), (0, u "charAt"), (0, u "(I)C"), (0, .class_ 14), (0, u "com/example/vestledger/vestledger/Digits"), (2, u "parse"), (0, u "(Ljava/lang/String;II)I")] 5

def k10m0 : Method := { name := "<init>", desc := "()V", sig := { parameters := [], returnType := none }, accessFlags := 2, code := none }
def k10c1 : Code := { maxStack := 2, maxLocals := 6, code := prog_2_method_2_code, exceptionTable := #[], attributes := #[] }
def k10m1 : Method := { name := "parse", desc := "(Ljava/lang/String;II)I", sig := { parameters := [(.object "java/lang/String"), .int, .int], returnType := some .int }, accessFlags := 8, code := some k10c1 }
/-- com/example/vestledger/vestledger/Digits -/
def k10 : Class := { plain "com/example/vestledger/vestledger/Digits" (some 0) with
  accessFlags := 48
  interfaces := #[]
  cf := some (fileOf pool10 13 #[] #[{ accessFlags := 2, nameIndex := 5, descriptorIndex := 6, attributes := #[] }, { accessFlags := 8, nameIndex := 17, descriptorIndex := 18, attributes := #[] }] 48 2 #[] #[])
  fields := #[]
  methods := #[k10m0, k10m1]
  instanceTypes := #[]
  staticTypes := #[]
  resolved := Array.replicate 24 none
  statics := none }

def pool11 : Array CpInfo := pool [(1, .class_ 2), (0, u "java/lang/String"), (1, .class_ 6), (1, u "java/lang/Object"), (0, u "<init>"), (0, u "()V"), (0, .methodref 1 10), (0, .nameAndType 11 12), (0, u "checkIndex"), (0, u "(II)V"), (1, .class_ 16), (1, u "java/lang/StringLatin1"), (36, u "([BI)C"), (67, u "$assertionsDisabled"), (0, u "Z"), (98, .class_ 223), (1, u "java/lang/StringLatin1$LinesSpliterator"), (28, u "charAt"), (137, .class_ 391), (0, u "java/lang/StringLatin1$CharsSpliterator")] 3

def k11m0 : Method := { name := "<init>", desc := "()V", sig := { parameters := [], returnType := none }, accessFlags := 0, code := none }
def k11c1 : Code := { maxStack := 2, maxLocals := 2, code := jdk_43_method_2_code, exceptionTable := #[], attributes := #[] }
def k11m1 : Method := { name := "charAt", desc := "([BI)C", sig := { parameters := [(.array .byte), .int], returnType := some .char }, accessFlags := 9, code := some k11c1 }
/-- java/lang/StringLatin1 -/
def k11 : Class := { plain "java/lang/StringLatin1" (some 0) with
  accessFlags := 48
  interfaces := #[]
  cf := some (fileOf pool11 14 #[.nestMembers #[390, 221]] #[{ accessFlags := 0, nameIndex := 7, descriptorIndex := 8, attributes := #[] }, { accessFlags := 9, nameIndex := 252, descriptorIndex := 53, attributes := #[] }] 48 4 #[] #[{ accessFlags := 4120, nameIndex := 121, descriptorIndex := 122, attributes := #[] }])
  fields := #[{ name := "$assertionsDisabled", type := .boolean, accessFlags := 4120, slot := 0, constantValue := 0 }]
  methods := #[k11m0, k11m1]
  instanceTypes := #[]
  staticTypes := #[.boolean]
  resolved := Array.replicate 395 none
  statics := none }

def pool12 : Array CpInfo := pool [(2, .class_ 4), (1, u "java/lang/Object"), (0, u "<init>"), (0, u "()V"), (17, .class_ 26), (1, u "jdk/internal/util/Preconditions"), (6, u "checkIndex"), (21, .class_ 56), (0, u "jdk/internal/util/Preconditions$4"), (57, .class_ 115), (0, u "jdk/internal/util/Preconditions$1"), (7, u "SIOOBE_FORMATTER"), (0, u "Ljava/util/function/BiFunction;"), (0, .class_ 126), (0, u "jdk/internal/util/Preconditions$2"), (3, u "AIOOBE_FORMATTER"), (0, .class_ 132), (0, u "jdk/internal/util/Preconditions$3"), (3, u "IOOBE_FORMATTER"), (41, u "(IILjava/util/function/BiFunction;)I")] 15

def k12m0 : Method := { name := "<init>", desc := "()V", sig := { parameters := [], returnType := none }, accessFlags := 1, code := none }
def k12c1 : Code := { maxStack := 3, maxLocals := 3, code := jdk_41_method_11_code, exceptionTable := #[], attributes := #[] }
def k12m1 : Method := { name := "checkIndex", desc := "(IILjava/util/function/BiFunction;)I", sig := { parameters := [.int, .int, (.object "java/util/function/BiFunction")], returnType := some .int }, accessFlags := 9, code := some k12c1 }
/-- jdk/internal/util/Preconditions -/
def k12 : Class := { plain "jdk/internal/util/Preconditions" (some 0) with
  accessFlags := 33
  interfaces := #[]
  cf := some (fileOf pool12 24 #[.nestMembers #[55, 131, 125, 114]] #[{ accessFlags := 1, nameIndex := 5, descriptorIndex := 6, attributes := #[] }, { accessFlags := 9, nameIndex := 33, descriptorIndex := 178, attributes := #[] }] 33 2 #[] #[{ accessFlags := 25, nameIndex := 123, descriptorIndex := 124, attributes := #[] }, { accessFlags := 25, nameIndex := 130, descriptorIndex := 124, attributes := #[] }, { accessFlags := 25, nameIndex := 136, descriptorIndex := 124, attributes := #[] }])
  fields := #[{ name := "SIOOBE_FORMATTER", type := (.object "java/util/function/BiFunction"), accessFlags := 25, slot := 0, constantValue := 0 }, { name := "AIOOBE_FORMATTER", type := (.object "java/util/function/BiFunction"), accessFlags := 25, slot := 1, constantValue := 0 }, { name := "IOOBE_FORMATTER", type := (.object "java/util/function/BiFunction"), accessFlags := 25, slot := 2, constantValue := 0 }]
  methods := #[k12m0, k12m1]
  instanceTypes := #[]
  staticTypes := #[(.object "java/util/function/BiFunction"), (.object "java/util/function/BiFunction"), (.object "java/util/function/BiFunction")]
  resolved := Array.replicate 194 none
  statics := some 1 }

def pool13 : Array CpInfo := pool [(9, u "<init>"), (6, .class_ 18), (1, u "java/lang/Object"), (0, u "()V"), (1, .class_ 23), (1, u "jdk/internal/util/ArraysSupport"), (0, u "LOG2_ARRAY_LONG_INDEX_SCALE"), (0, u "I"), (2, u "U"), (0, u "Ljdk/internal/misc/Unsafe;"), (8, u "BIG_ENDIAN"), (0, u "Z"), (8, u "LOG2_BYTE_BIT_SIZE"), (4, u "LOG2_ARRAY_INT_INDEX_SCALE"), (54, u "JLA"), (0, u "Ljdk/internal/access/JavaLangAccess;"), (11, u "LOG2_ARRAY_BOOLEAN_INDEX_SCALE"), (9, u "LOG2_ARRAY_BYTE_INDEX_SCALE"), (5, u "LOG2_ARRAY_CHAR_INDEX_SCALE"), (5, u "LOG2_ARRAY_SHORT_INDEX_SCALE"), (18, u "LOG2_ARRAY_FLOAT_INDEX_SCALE"), (24, u "LOG2_ARRAY_DOUBLE_INDEX_SCALE"), (89, u "T_BOOLEAN"), (2, u "T_CHAR"), (1, u "T_FLOAT"), (1, u "T_DOUBLE"), (1, u "T_BYTE"), (1, u "T_SHORT"), (1, u "T_INT"), (1, u "T_LONG"), (1, u "SOFT_MAX_ARRAY_LENGTH")] 83

def k13m0 : Method := { name := "<init>", desc := "()V", sig := { parameters := [], returnType := none }, accessFlags := 2, code := none }
/-- jdk/internal/util/ArraysSupport -/
def k13 : Class := { plain "jdk/internal/util/ArraysSupport" (some 0) with
  accessFlags := 33
  interfaces := #[]
  cf := some (fileOf pool13 21 #[] #[{ accessFlags := 2, nameIndex := 9, descriptorIndex := 19, attributes := #[] }] 33 16 #[] #[{ accessFlags := 24, nameIndex := 28, descriptorIndex := 29, attributes := #[] }, { accessFlags := 26, nameIndex := 38, descriptorIndex := 39, attributes := #[] }, { accessFlags := 25, nameIndex := 121, descriptorIndex := 25, attributes := #[] }, { accessFlags := 25, nameIndex := 131, descriptorIndex := 25, attributes := #[] }, { accessFlags := 25, nameIndex := 137, descriptorIndex := 25, attributes := #[] }, { accessFlags := 25, nameIndex := 143, descriptorIndex := 25, attributes := #[] }, { accessFlags := 25, nameIndex := 53, descriptorIndex := 25, attributes := #[] }, { accessFlags := 25, nameIndex := 24, descriptorIndex := 25, attributes := #[] }, { accessFlags := 25, nameIndex := 162, descriptorIndex := 25, attributes := #[] }, { accessFlags := 25, nameIndex := 187, descriptorIndex := 25, attributes := #[] }, { accessFlags := 26, nameIndex := 48, descriptorIndex := 25, attributes := #[] }, { accessFlags := 25, nameIndex := 277, descriptorIndex := 25, attributes := #[] }, { accessFlags := 25, nameIndex := 280, descriptorIndex := 25, attributes := #[] }, { accessFlags := 25, nameIndex := 282, descriptorIndex := 25, attributes := #[] }, { accessFlags := 25, nameIndex := 284, descriptorIndex := 25, attributes := #[] }, { accessFlags := 25, nameIndex := 286, descriptorIndex := 25, attributes := #[] }, { accessFlags := 25, nameIndex := 288, descriptorIndex := 25, attributes := #[] }, { accessFlags := 25, nameIndex := 290, descriptorIndex := 25, attributes := #[] }, { accessFlags := 25, nameIndex := 292, descriptorIndex := 25, attributes := #[] }, { accessFlags := 26, nameIndex := 108, descriptorIndex := 109, attributes := #[] }, { accessFlags := 25, nameIndex := 294, descriptorIndex := 25, attributes := #[] }])
  fields := #[{ name := "U", type := (.object "jdk/internal/misc/Unsafe"), accessFlags := 24, slot := 0, constantValue := 0 }, { name := "BIG_ENDIAN", type := .boolean, accessFlags := 26, slot := 1, constantValue := 0 }, { name := "LOG2_ARRAY_BOOLEAN_INDEX_SCALE", type := .int, accessFlags := 25, slot := 2, constantValue := 0 }, { name := "LOG2_ARRAY_BYTE_INDEX_SCALE", type := .int, accessFlags := 25, slot := 3, constantValue := 0 }, { name := "LOG2_ARRAY_CHAR_INDEX_SCALE", type := .int, accessFlags := 25, slot := 4, constantValue := 0 }, { name := "LOG2_ARRAY_SHORT_INDEX_SCALE", type := .int, accessFlags := 25, slot := 5, constantValue := 0 }, { name := "LOG2_ARRAY_INT_INDEX_SCALE", type := .int, accessFlags := 25, slot := 6, constantValue := 0 }, { name := "LOG2_ARRAY_LONG_INDEX_SCALE", type := .int, accessFlags := 25, slot := 7, constantValue := 0 }, { name := "LOG2_ARRAY_FLOAT_INDEX_SCALE", type := .int, accessFlags := 25, slot := 8, constantValue := 0 }, { name := "LOG2_ARRAY_DOUBLE_INDEX_SCALE", type := .int, accessFlags := 25, slot := 9, constantValue := 0 }, { name := "LOG2_BYTE_BIT_SIZE", type := .int, accessFlags := 26, slot := 10, constantValue := 0 }, { name := "T_BOOLEAN", type := .int, accessFlags := 25, slot := 11, constantValue := 0 }, { name := "T_CHAR", type := .int, accessFlags := 25, slot := 12, constantValue := 0 }, { name := "T_FLOAT", type := .int, accessFlags := 25, slot := 13, constantValue := 0 }, { name := "T_DOUBLE", type := .int, accessFlags := 25, slot := 14, constantValue := 0 }, { name := "T_BYTE", type := .int, accessFlags := 25, slot := 15, constantValue := 0 }, { name := "T_SHORT", type := .int, accessFlags := 25, slot := 16, constantValue := 0 }, { name := "T_INT", type := .int, accessFlags := 25, slot := 17, constantValue := 0 }, { name := "T_LONG", type := .int, accessFlags := 25, slot := 18, constantValue := 0 }, { name := "JLA", type := (.object "jdk/internal/access/JavaLangAccess"), accessFlags := 26, slot := 19, constantValue := 0 }, { name := "SOFT_MAX_ARRAY_LENGTH", type := .int, accessFlags := 25, slot := 20, constantValue := 0 }]
  methods := #[k13m0]
  instanceTypes := #[]
  staticTypes := #[(.object "jdk/internal/misc/Unsafe"), .boolean, .int, .int, .int, .int, .int, .int, .int, .int, .int, .int, .int, .int, .int, .int, .int, .int, .int, (.object "jdk/internal/access/JavaLangAccess"), .int]
  resolved := Array.replicate 378 none
  statics := none }

def pool14 : Array CpInfo := pool [(1, u "java/lang/Cloneable"), (0, .class_ 1), (0, u "java/lang/Object"), (0, .class_ 3)] 3

/-- java/lang/Cloneable -/
def k14 : Class := { plain "java/lang/Cloneable" (some 0) with
  accessFlags := 1537
  interfaces := #[]
  cf := some (fileOf pool14 2 #[] #[] 1537 4 #[] #[])
  fields := #[]
  methods := #[]
  instanceTypes := #[]
  staticTypes := #[]
  resolved := Array.replicate 8 none
  statics := none }

/-- the primitive byte -/
def k15 : Class := { plain "byte" none with kind := .primitive 'B', accessFlags := 0x411 }
/-- [B -/
def k16 : Class := { plain "[B" (some 0) with kind := .array 15 .byte, interfaces := #[14, 2], accessFlags := 1041 }

/-- the primitive char -/
def k17 : Class := { plain "char" none with kind := .primitive 'C', accessFlags := 0x411 }
/-- [C -/
def k18 : Class := { plain "[C" (some 0) with kind := .array 17 .char, interfaces := #[14, 2], accessFlags := 1041 }

/-- the primitive int -/
def k19 : Class := { plain "int" none with kind := .primitive 'I', accessFlags := 0x411 }
/-- [I -/
def k20 : Class := { plain "[I" (some 0) with kind := .array 19 .int, interfaces := #[14, 2], accessFlags := 1041 }

def heap : Heap := #[{ cls := 7, slots := #[.long 0, .int 1, .null, .int 0, .null, .int 0, .int 0], vm := .statics 7 },
  { cls := 12, slots := #[.null, .null, .null], vm := .statics 12 }]
def classes : Array Class := #[k0, k1, k2, k3, k4, k5, k6, k7, k8, k9, k10, k11, k12, k13, k14, k15, k16, k17, k18, k19, k20]
def interned : List (Array UInt16 × Addr) := []
def slotsUsed : Nat := 10
def theMethod : MethodId := ⟨1, 1⟩
def args0 : Array Value := #[.long 5, .int 65, .int 1, .int 3]
def aboutOver (below : List Frame) : State where
  vm := { classes := classes, interned := interned.toArray }
  heap := heap
  slotsUsed := slotsUsed
  threads := #[{ frames := .invoking theMethod args0 :: below }]
def below0 : List Frame := [.native { method := ⟨0, 0⟩, args := #[] }]
def about1 : State := aboutOver below0
def p0 : Program := .bare "" "" ""
def e0 : Env := launch0.env 0 0 0
theorem w_frames : about1.frames = Frame.invoking theMethod args0 :: below0 := rfl
set_option maxRecDepth 65536 in
theorem w_args : argsFit about1.vm theMethod args0 = true := by decide +kernel
set_option maxRecDepth 65536 in
theorem w_heap : heapFits about1 = true := by decide +kernel
set_option maxRecDepth 65536 in
theorem w_runnable : about1.curStatus? = some .runnable := by decide +kernel
set_option maxRecDepth 65536 in
theorem w_alone : about1.alone = true := by decide +kernel
set_option maxRecDepth 65536 in
theorem w_named : about1.methodNamed? x = some theMethod := by decide +kernel
set_option maxRecDepth 65536 in
theorem w_hears : about1.hears theMethod below0 = true := by decide +kernel
set_option maxRecDepth 65536 in
theorem w_ripe : about1.ripe theMethod args0 below0 = true := by decide +kernel
theorem w_running : about1.status = .running := rfl
set_option maxRecDepth 65536 in
theorem w_room : about1.hasRoom e0.platform room_1 = true :=
  launch0.hasRoom_least _ room_1 (by decide +kernel) (by decide +kernel) (by decide +kernel) (by decide +kernel) (by decide +kernel) (by decide +kernel)
theorem allAtoms_all (ts : List Jvm.Cond) (a : Array Jvm.Value) (st : Jvm.State) : (allAtoms ts).before a st = ts.all (fun c => c.before a st) := by
  induction ts with
  | nil => rfl
  | cons c t ih =>
    show (Jvm.Cond.and c (allAtoms t)).before a st = _
    rw [Jvm.Cond.before_and, ih, List.all_cons]
def words1 : List Jvm.Cond := Jvm.Cond.code x code maxLocals ret :: tables_1
/-- a 'code' word, met by the world's own term for the bytes: nothing is compared byte by byte -/
theorem code_word {y : MethodName} {bytes : ByteArray} {mx : Nat} {rt : Option FieldType} {a : Array Value} {s : State} {m : MethodId} {meth : Method} {c : Code} (h1 : s.methodNamed? y = some m) (h2 : s.vm.method? m = some meth) (h3 : meth.code = some c) (h4 : c.code = bytes)
    (h5 : (c.maxLocals == mx && c.exceptionTable.isEmpty && decide (c.maxStack ≤ mostOperands) && decide (meth.sig.returnType = rt) && !meth.locks && decide (parseMethodDescriptor y.desc = some meth.sig)) = true) : (Jvm.Cond.code y bytes mx rt).before a s = true := by
  simp only [Bool.and_eq_true, beq_iff_eq, Bool.not_eq_true', decide_eq_true_eq] at h5
  obtain ⟨⟨⟨⟨⟨g1, g2⟩, g3⟩, g4⟩, g5⟩, g6⟩ := h5
  simp [Cond.before, Cond.holds, Cond.value, h1, h2, h3, h4, g1, g2, g3, g4, g5, g6]
def isCode : Jvm.Cond → Bool
  | .code _ _ _ _ => true
  | _ => false
theorem all_split {L : List Jvm.Cond} {P : Jvm.Cond → Bool} (h1 : L.all (fun c => isCode c || P c) = true) (h2 : ∀ c ∈ L.filter isCode, P c = true) : L.all P = true := by
  refine List.all_eq_true.mpr fun c hc => ?_
  have h := List.all_eq_true.mp h1 c hc
  rcases Bool.eq_false_or_eq_true (isCode c) with hi | hi
  · exact h2 c (List.mem_filter.mpr ⟨hc, hi⟩)
  · simpa [hi] using h
set_option maxRecDepth 65536 in
theorem w_c0 : (Jvm.Cond.code x code maxLocals ret).before args0 about1 = true := code_word (m := ⟨1, 1⟩) (meth := k1m1) (c := k1c1) (by decide +kernel) rfl rfl rfl (by decide +kernel)
set_option maxRecDepth 65536 in
theorem w_c1 : (Jvm.Cond.code ({ cls := "com/example/vestledger/vestledger/DigitsParsePinLaw", name := "draw", desc := "(I)C" } : Jvm.MethodName) method_3_code (1 : Nat) (Option.some Jvm.ClassFile.FieldType.char)).before args0 about1 = true := code_word (m := ⟨1, 2⟩) (meth := k1m2) (c := k1c2) (by decide +kernel) rfl rfl rfl (by decide +kernel)
set_option maxRecDepth 65536 in
theorem w_c2 : (Jvm.Cond.code ({ cls := "java/lang/String", name := "<init>", desc := "([C)V" } : Jvm.MethodName) jdk_42_method_3_code (2 : Nat) (Option.none : Option Jvm.ClassFile.FieldType)).before args0 about1 = true := code_word (m := ⟨7, 1⟩) (meth := k7m1) (c := k7c1) (by decide +kernel) rfl rfl rfl (by decide +kernel)
set_option maxRecDepth 65536 in
theorem w_c3 : (Jvm.Cond.code ({ cls := "java/lang/String", name := "<init>", desc := "([CIILjava/lang/Void;)V" } : Jvm.MethodName) jdk_42_method_149_code (6 : Nat) (Option.none : Option Jvm.ClassFile.FieldType)).before args0 about1 = true := code_word (m := ⟨7, 3⟩) (meth := k7m3) (c := k7c3) (by decide +kernel) rfl rfl rfl (by decide +kernel)
set_option maxRecDepth 65536 in
theorem w_c4 : (Jvm.Cond.code ({ cls := "java/lang/Object", name := "<init>", desc := "()V" } : Jvm.MethodName) object_method_1_code (1 : Nat) (Option.none : Option Jvm.ClassFile.FieldType)).before args0 about1 = true := code_word (m := ⟨0, 0⟩) (meth := k0m0) (c := k0c0) (by decide +kernel) rfl rfl rfl (by decide +kernel)
set_option maxRecDepth 65536 in
theorem w_c5 : (Jvm.Cond.code ({ cls := "java/lang/StringUTF16", name := "compress", desc := "([CII)[B" } : Jvm.MethodName) jdk_52_method_16_code (6 : Nat) (Option.some (Jvm.ClassFile.FieldType.array Jvm.ClassFile.FieldType.byte))).before args0 about1 = true := code_word (m := ⟨8, 2⟩) (meth := k8m2) (c := k8c2) (by decide +kernel) rfl rfl rfl (by decide +kernel)
set_option maxRecDepth 65536 in
theorem w_c6 : (Jvm.Cond.code ({ cls := "java/lang/StringUTF16", name := "compress", desc := "([CI[BII)I" } : Jvm.MethodName) jdk_52_method_21_code (7 : Nat) (Option.some Jvm.ClassFile.FieldType.int)).before args0 about1 = true := code_word (m := ⟨8, 3⟩) (meth := k8m3) (c := k8c3) (by decide +kernel) rfl rfl rfl (by decide +kernel)
set_option maxRecDepth 65536 in
theorem w_c7 : (Jvm.Cond.code ({ cls := "java/lang/StringUTF16", name := "coderFromArrayLen", desc := "([BI)B" } : Jvm.MethodName) jdk_52_method_15_code (2 : Nat) (Option.some Jvm.ClassFile.FieldType.byte)).before args0 about1 = true := code_word (m := ⟨8, 1⟩) (meth := k8m1) (c := k8c1) (by decide +kernel) rfl rfl rfl (by decide +kernel)
set_option maxRecDepth 65536 in
theorem w_c8 : (Jvm.Cond.code ({ cls := "java/lang/Math", name := "min", desc := "(II)I" } : Jvm.MethodName) jdk_29_method_69_code (2 : Nat) (Option.some Jvm.ClassFile.FieldType.int)).before args0 about1 = true := code_word (m := ⟨9, 2⟩) (meth := k9m2) (c := k9c2) (by decide +kernel) rfl rfl rfl (by decide +kernel)
set_option maxRecDepth 65536 in
theorem w_c9 : (Jvm.Cond.code ({ cls := "java/lang/Math", name := "max", desc := "(II)I" } : Jvm.MethodName) jdk_29_method_65_code (2 : Nat) (Option.some Jvm.ClassFile.FieldType.int)).before args0 about1 = true := code_word (m := ⟨9, 1⟩) (meth := k9m1) (c := k9c1) (by decide +kernel) rfl rfl rfl (by decide +kernel)
set_option maxRecDepth 65536 in
theorem w_c10 : (Jvm.Cond.code ({ cls := "com/example/vestledger/vestledger/DigitsParsePinLaw", name := "reference", desc := "([CII)I" } : Jvm.MethodName) method_7_code (8 : Nat) (Option.some Jvm.ClassFile.FieldType.int)).before args0 about1 = true := code_word (m := ⟨1, 6⟩) (meth := k1m6) (c := k1c6) (by decide +kernel) rfl rfl rfl (by decide +kernel)
set_option maxRecDepth 65536 in
theorem w_c11 : (Jvm.Cond.code ({ cls := "com/example/vestledger/vestledger/DigitsParsePinLaw", name := "term", desc := "([CIII)I" } : Jvm.MethodName) method_6_code (5 : Nat) (Option.some Jvm.ClassFile.FieldType.int)).before args0 about1 = true := code_word (m := ⟨1, 5⟩) (meth := k1m5) (c := k1c5) (by decide +kernel) rfl rfl rfl (by decide +kernel)
set_option maxRecDepth 65536 in
theorem w_c12 : (Jvm.Cond.code ({ cls := "com/example/vestledger/vestledger/DigitsParsePinLaw", name := "digitValue", desc := "(C)I" } : Jvm.MethodName) method_4_code (1 : Nat) (Option.some Jvm.ClassFile.FieldType.int)).before args0 about1 = true := code_word (m := ⟨1, 3⟩) (meth := k1m3) (c := k1c3) (by decide +kernel) rfl rfl rfl (by decide +kernel)
set_option maxRecDepth 65536 in
theorem w_c13 : (Jvm.Cond.code ({ cls := "com/example/vestledger/vestledger/Digits", name := "parse", desc := "(Ljava/lang/String;II)I" } : Jvm.MethodName) prog_2_method_2_code (6 : Nat) (Option.some Jvm.ClassFile.FieldType.int)).before args0 about1 = true := code_word (m := ⟨10, 1⟩) (meth := k10m1) (c := k10c1) (by decide +kernel) rfl rfl rfl (by decide +kernel)
set_option maxRecDepth 65536 in
theorem w_c14 : (Jvm.Cond.code ({ cls := "java/lang/String", name := "charAt", desc := "(I)C" } : Jvm.MethodName) jdk_42_method_56_code (2 : Nat) (Option.some Jvm.ClassFile.FieldType.char)).before args0 about1 = true := code_word (m := ⟨7, 2⟩) (meth := k7m2) (c := k7c2) (by decide +kernel) rfl rfl rfl (by decide +kernel)
set_option maxRecDepth 65536 in
theorem w_c15 : (Jvm.Cond.code ({ cls := "java/lang/String", name := "isLatin1", desc := "()Z" } : Jvm.MethodName) jdk_42_method_154_code (1 : Nat) (Option.some Jvm.ClassFile.FieldType.boolean)).before args0 about1 = true := code_word (m := ⟨7, 4⟩) (meth := k7m4) (c := k7c4) (by decide +kernel) rfl rfl rfl (by decide +kernel)
set_option maxRecDepth 65536 in
theorem w_c16 : (Jvm.Cond.code ({ cls := "java/lang/StringLatin1", name := "charAt", desc := "([BI)C" } : Jvm.MethodName) jdk_43_method_2_code (2 : Nat) (Option.some Jvm.ClassFile.FieldType.char)).before args0 about1 = true := code_word (m := ⟨11, 1⟩) (meth := k11m1) (c := k11c1) (by decide +kernel) rfl rfl rfl (by decide +kernel)
set_option maxRecDepth 65536 in
theorem w_c17 : (Jvm.Cond.code ({ cls := "java/lang/String", name := "checkIndex", desc := "(II)V" } : Jvm.MethodName) jdk_42_method_155_code (2 : Nat) (Option.none : Option Jvm.ClassFile.FieldType)).before args0 about1 = true := code_word (m := ⟨7, 5⟩) (meth := k7m5) (c := k7c5) (by decide +kernel) rfl rfl rfl (by decide +kernel)
set_option maxRecDepth 65536 in
theorem w_c18 : (Jvm.Cond.code ({ cls := "jdk/internal/util/Preconditions", name := "checkIndex", desc := "(IILjava/util/function/BiFunction;)I" } : Jvm.MethodName) jdk_41_method_11_code (3 : Nat) (Option.some Jvm.ClassFile.FieldType.int)).before args0 about1 = true := code_word (m := ⟨12, 1⟩) (meth := k12m1) (c := k12c1) (by decide +kernel) rfl rfl rfl (by decide +kernel)
set_option maxRecDepth 65536 in
theorem w_c19 : (Jvm.Cond.code ({ cls := "com/example/vestledger/vestledger/DigitsParsePinLaw", name := "pow10", desc := "(I)I" } : Jvm.MethodName) method_5_code (1 : Nat) (Option.some Jvm.ClassFile.FieldType.int)).before args0 about1 = true := code_word (m := ⟨1, 4⟩) (meth := k1m4) (c := k1c4) (by decide +kernel) rfl rfl rfl (by decide +kernel)
def codes1 : List Jvm.Cond := [Jvm.Cond.code x code maxLocals ret, Jvm.Cond.code ({ cls := "com/example/vestledger/vestledger/DigitsParsePinLaw", name := "draw", desc := "(I)C" } : Jvm.MethodName) method_3_code (1 : Nat) (Option.some Jvm.ClassFile.FieldType.char), Jvm.Cond.code ({ cls := "java/lang/String", name := "<init>", desc := "([C)V" } : Jvm.MethodName) jdk_42_method_3_code (2 : Nat) (Option.none : Option Jvm.ClassFile.FieldType), Jvm.Cond.code ({ cls := "java/lang/String", name := "<init>", desc := "([CIILjava/lang/Void;)V" } : Jvm.MethodName) jdk_42_method_149_code (6 : Nat) (Option.none : Option Jvm.ClassFile.FieldType), Jvm.Cond.code ({ cls := "java/lang/Object", name := "<init>", desc := "()V" } : Jvm.MethodName) object_method_1_code (1 : Nat) (Option.none : Option Jvm.ClassFile.FieldType), Jvm.Cond.code ({ cls := "java/lang/StringUTF16", name := "compress", desc := "([CII)[B" } : Jvm.MethodName) jdk_52_method_16_code (6 : Nat) (Option.some (Jvm.ClassFile.FieldType.array Jvm.ClassFile.FieldType.byte)), Jvm.Cond.code ({ cls := "java/lang/StringUTF16", name := "compress", desc := "([CI[BII)I" } : Jvm.MethodName) jdk_52_method_21_code (7 : Nat) (Option.some Jvm.ClassFile.FieldType.int), Jvm.Cond.code ({ cls := "java/lang/StringUTF16", name := "coderFromArrayLen", desc := "([BI)B" } : Jvm.MethodName) jdk_52_method_15_code (2 : Nat) (Option.some Jvm.ClassFile.FieldType.byte), Jvm.Cond.code ({ cls := "java/lang/Math", name := "min", desc := "(II)I" } : Jvm.MethodName) jdk_29_method_69_code (2 : Nat) (Option.some Jvm.ClassFile.FieldType.int), Jvm.Cond.code ({ cls := "java/lang/Math", name := "max", desc := "(II)I" } : Jvm.MethodName) jdk_29_method_65_code (2 : Nat) (Option.some Jvm.ClassFile.FieldType.int), Jvm.Cond.code ({ cls := "com/example/vestledger/vestledger/DigitsParsePinLaw", name := "reference", desc := "([CII)I" } : Jvm.MethodName) method_7_code (8 : Nat) (Option.some Jvm.ClassFile.FieldType.int), Jvm.Cond.code ({ cls := "com/example/vestledger/vestledger/DigitsParsePinLaw", name := "term", desc := "([CIII)I" } : Jvm.MethodName) method_6_code (5 : Nat) (Option.some Jvm.ClassFile.FieldType.int), Jvm.Cond.code ({ cls := "com/example/vestledger/vestledger/DigitsParsePinLaw", name := "digitValue", desc := "(C)I" } : Jvm.MethodName) method_4_code (1 : Nat) (Option.some Jvm.ClassFile.FieldType.int), Jvm.Cond.code ({ cls := "com/example/vestledger/vestledger/Digits", name := "parse", desc := "(Ljava/lang/String;II)I" } : Jvm.MethodName) prog_2_method_2_code (6 : Nat) (Option.some Jvm.ClassFile.FieldType.int), Jvm.Cond.code ({ cls := "java/lang/String", name := "charAt", desc := "(I)C" } : Jvm.MethodName) jdk_42_method_56_code (2 : Nat) (Option.some Jvm.ClassFile.FieldType.char), Jvm.Cond.code ({ cls := "java/lang/String", name := "isLatin1", desc := "()Z" } : Jvm.MethodName) jdk_42_method_154_code (1 : Nat) (Option.some Jvm.ClassFile.FieldType.boolean), Jvm.Cond.code ({ cls := "java/lang/StringLatin1", name := "charAt", desc := "([BI)C" } : Jvm.MethodName) jdk_43_method_2_code (2 : Nat) (Option.some Jvm.ClassFile.FieldType.char), Jvm.Cond.code ({ cls := "java/lang/String", name := "checkIndex", desc := "(II)V" } : Jvm.MethodName) jdk_42_method_155_code (2 : Nat) (Option.none : Option Jvm.ClassFile.FieldType), Jvm.Cond.code ({ cls := "jdk/internal/util/Preconditions", name := "checkIndex", desc := "(IILjava/util/function/BiFunction;)I" } : Jvm.MethodName) jdk_41_method_11_code (3 : Nat) (Option.some Jvm.ClassFile.FieldType.int), Jvm.Cond.code ({ cls := "com/example/vestledger/vestledger/DigitsParsePinLaw", name := "pow10", desc := "(I)I" } : Jvm.MethodName) method_5_code (1 : Nat) (Option.some Jvm.ClassFile.FieldType.int)]
set_option maxRecDepth 65536 in
theorem codes_eq : words1.filter isCode = codes1 := rfl
theorem w_codes : ∀ c ∈ words1.filter isCode, c.before args0 about1 = true := by
  rw [codes_eq]
  intro c hc
  simp only [codes1, List.mem_cons, List.not_mem_nil, or_false] at hc
  rcases hc with rfl | rfl | rfl | rfl | rfl | rfl | rfl | rfl | rfl | rfl | rfl | rfl | rfl | rfl | rfl | rfl | rfl | rfl | rfl | rfl
  · exact w_c0
  · exact w_c1
  · exact w_c2
  · exact w_c3
  · exact w_c4
  · exact w_c5
  · exact w_c6
  · exact w_c7
  · exact w_c8
  · exact w_c9
  · exact w_c10
  · exact w_c11
  · exact w_c12
  · exact w_c13
  · exact w_c14
  · exact w_c15
  · exact w_c16
  · exact w_c17
  · exact w_c18
  · exact w_c19
set_option maxRecDepth 65536 in
theorem w_t1 : (words1.take 24).all (fun c => isCode c || c.before args0 about1) = true := by decide +kernel
set_option maxRecDepth 65536 in
theorem w_t2 : ((words1.drop 24).take 24).all (fun c => isCode c || c.before args0 about1) = true := by decide +kernel
set_option maxRecDepth 65536 in
theorem w_t3 : (((words1.drop 24).drop 24).take 24).all (fun c => isCode c || c.before args0 about1) = true := by decide +kernel
set_option maxRecDepth 65536 in
theorem w_t4 : (((words1.drop 24).drop 24).drop 24).all (fun c => isCode c || c.before args0 about1) = true := by decide +kernel
theorem w_tables : (allAtoms (Jvm.Cond.code x code maxLocals ret :: tables_1)).before args0 about1 = true := by
  rw [allAtoms_all]
  show words1.all (fun c => c.before args0 about1) = true
  refine all_split ?_ w_codes
  rw [← List.take_append_drop 24 words1, List.all_append, w_t1, ← List.take_append_drop 24 (words1.drop 24), List.all_append, w_t2, ← List.take_append_drop 24 ((words1.drop 24).drop 24), List.all_append, w_t3, w_t4]
  rfl
set_option maxRecDepth 65536 in
theorem w_rest : rest_1_c.before args0 about1 = true := by decide +kernel
set_option maxRecDepth 65536 in
theorem w_case : (Jvm.Cond.and given_1 narrow_1).before args0 about1 = true := by decide +kernel
theorem w_applies : (headSpec (Jvm.Cond.code x code maxLocals ret :: tables_1) room_1).applies x e0.platform about1 = true :=
  (Spec.applies_iff w_frames).mpr ⟨w_running, w_runnable, w_alone, w_named, w_hears, w_ripe, w_room, w_tables⟩
theorem atStart : AtStart classFile x code maxLocals ret World_1 tables_1 room_1 Calls_1 rest_1 Pre_1 launch0 p0 e0 about1 theMethod args0 below0 :=
  ⟨lists_1, trivial, launch0.admits_env _ _ _, launch0.least_env, fairChoices_fair.cas, fairChoices_fair.clock, w_frames, w_args, w_heap, w_applies, trivial, w_rest, w_case⟩
end start1
theorem witness_1 : WitnessClaimed_1 := ⟨start1.p0, start1.e0, start1.about1, start1.theMethod, start1.args0, start1.below0, start1.atStart⟩
end Jvm.Pilot.@@N@@
